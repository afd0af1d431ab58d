import PyProof.Rows.All
import Wide.All
import OpenK.AllK
import Wide.FinOn
import Lean
import PySem.Challenge.RW_ph0135_02
open PySem PySem.W PyProof.Rows PySem.Calls
set_option Elab.async false
set_option maxRecDepth 100000
/- Top02 -/
open PySem PySem.W PyProof.Rows
set_option maxHeartbeats 8000000
namespace Mine
section
-- only to have the library write out the heap that the top leaves (hd.heap_1); the theorem itself is empty and is not used
local macro_rules | `(tactic| o_head $_) => `(tactic| contradiction)
theorem hd (no : False) : True := by
  refine (?f : PySem.Challenge.rw_ph0135_02.Holds → True) ?h
  case f => exact fun _ => trivial
  case h => w_on; refine holds_law no.elim fun said => ?_; k_head
end
end Mine
/- Fw1 -/
set_option autoImplicit false
set_option genSizeOf false
set_option genInjectivity false
namespace Mine
local macro_rules | `(tactic| omega) => `(tactic| lia)
/-- what a whole law call shares -/
structure Cx where
  prog : Program
  w : World
  K : Frag
  base : Heap
  os : OsState
  mb : Str → Option Value
  /-- code tables that genexprs may grow: the code object, the table, what it holds at first -/
  tabs : List (Addr × Addr × Array Value)
structure Cx.Ok (c : Cx) : Prop where
  top : c.K.In c.base
  bns : c.base.Ns builtinsNs c.mb
  bb : ∀ x : Str, x ≠ "__name__" → c.mb x = bootBuiltins x
  lim : c.base.NoLimit
  tab : ∀ t ∈ c.tabs, c.base.TableAt t.1 t.2.1 t.2.2 ∧ c.base.IsCode t.1 t.2.1 t.2.2
  nogl : builtinsNs ∉ c.tabs.map (·.2.1)
  nost : cStatics ∉ c.tabs.map (·.2.1)
  noK : ∀ a o, c.K.lookup a = some o → a ∉ c.tabs.map (·.2.1)
  /-- the code objects are no tables; two tables are two -/
  cod : ∀ t ∈ c.tabs, t.1 ∉ c.tabs.map (·.2.1)
  two : (c.tabs.map (·.2.1)).Nodup
  bm : ∃ bm ob, nsIn c.K mainGlobals "__builtins__" = some (some (.ref bm)) ∧ bm ≠ builtinsNs ∧ bm ∉ c.tabs.map (·.2.1) ∧ c.base.get? bm = some ob ∧ ob.cls = .type "module" ∧ ob.dict = some builtinsNs ∧ ob.data = .plain
/-- the locals that are known -/
abbrev Loc := List (Str × Option Value)
/-- the frame at L bears them -/
def Bears (h : Heap) (L : Addr) (m : Loc) : Prop := (m.map (·.1)).Nodup ∧ ∃ f, h.Ns L f ∧ ∀ x v, (x, some v) ∈ m → f x = some v
theorem Bears.lt {h : Heap} {L : Addr} {m : Loc} (b : Bears h L m) : L < h.objs.size := let ⟨_, _, n, _⟩ := b; n.lt
theorem Bears.keeps {h h' : Heap} {L : Addr} {m : Loc} (b : Bears h L m) (k : ∀ b o, h.get? b = some o → h'.get? b = some o) : Bears h' L m := let ⟨d, f, n, e⟩ := b; ⟨d, f, n.keeps k, e⟩
theorem Bears.sameBut {h h' : Heap} {L a : Addr} {m : Loc} (b : Bears h L m) (hs : Heap.SameBut a h h') (ha : L ≠ a) : Bears h' L m := let ⟨d, f, n, e⟩ := b; ⟨d, f, n.sameBut hs ha, e⟩
inductive SetAt {α : Type} (x : Str) (v : α) : List (Str × α) → List (Str × α) → Prop where
  | head {w : α} {l : List (Str × α)} : SetAt x v ((x, w) :: l) ((x, v) :: l)
  | tail {p : Str × α} {l l' : List (Str × α)} : SetAt x v l l' → SetAt x v (p :: l) (p :: l')
theorem SetAt.keys {α : Type} {x : Str} {v : α} {l l' : List (Str × α)} (h : SetAt x v l l') : l'.map (·.1) = l.map (·.1) := by
  induction h with
  | head => rfl
  | tail _ ih => rw [List.map_cons, List.map_cons, ih]
theorem SetAt.mem {α : Type} {x : Str} {v : α} {l l' : List (Str × α)} (h : SetAt x v l l') (nd : (l.map (·.1)).Nodup) : ∀ y u, (y, u) ∈ l' → (y = x ∧ u = v) ∨ (y ≠ x ∧ (y, u) ∈ l) := by
  induction h with
  | head =>
    intro y u hm
    rcases List.mem_cons.mp hm with e | hm
    · cases e; exact .inl ⟨rfl, rfl⟩
    · refine .inr ⟨fun e => ?_, .tail _ hm⟩
      exact (List.nodup_cons.mp nd).1 (List.mem_map.mpr ⟨_, hm, e⟩)
  | @tail p l l' h ih =>
    intro y u hm
    have nd' := List.nodup_cons.mp nd
    rcases List.mem_cons.mp hm with e | hm
    · subst e
      refine .inr ⟨fun e => nd'.1 ?_, .head _⟩
      have : x ∈ l.map (·.1) := by
        clear ih nd nd' hm
        induction h with
        | head => exact .head _
        | tail _ ih => exact .tail _ ih
      show y ∈ _
      rw [e]; exact this
    · rcases ih nd'.2 y u hm with q | q
      · exact .inl q
      · exact .inr ⟨q.1, .tail _ q.2⟩
inductive SetM (a : Addr) (o o' : Obj) : List (Addr × Obj) → List (Addr × Obj) → Prop where
  | head {l : List (Addr × Obj)} : SetM a o o' ((a, o) :: l) ((a, o') :: l)
  | tail {p : Addr × Obj} {l l' : List (Addr × Obj)} : SetM a o o' l l' → SetM a o o' (p :: l) (p :: l')
theorem SetM.idx {a : Addr} {o o' : Obj} {l l' : List (Addr × Obj)} (h : SetM a o o' l l') : ∃ i, l[i]? = some (a, o) ∧ l' = l.set i (a, o') := by
  induction h with
  | head => exact ⟨0, rfl, rfl⟩
  | tail _ ih => obtain ⟨i, e1, e2⟩ := ih; exact ⟨i + 1, by simpa using e1, by rw [e2]; rfl⟩
theorem SetM.mem {a : Addr} {o o' : Obj} {l l' : List (Addr × Obj)} (h : SetM a o o' l l') : (a, o) ∈ l := by
  obtain ⟨i, e, _⟩ := h.idx
  exact List.mem_of_getElem? e
theorem SetM.mem' {a : Addr} {o o' : Obj} {l l' : List (Addr × Obj)} (h : SetM a o o' l l') : (a, o') ∈ l' := by
  induction h with
  | head => exact .head _
  | tail _ ih => exact .tail _ ih
/-- a code object's table has grown at most -/
def TabOk (h : Heap) (t : Addr × Addr × Array Value) : Prop := ∃ more, h.IsCode t.1 t.2.1 (t.2.2 ++ more) ∧ h.TableAt t.1 t.2.1 (t.2.2 ++ more)
theorem TabOk.of {h h' : Heap} {t : Addr × Addr × Array Value} (x : TabOk h t) (k : ∀ b o, b = t.1 ∨ b = t.2.1 → h.get? b = some o → h'.get? b = some o) : TabOk h' t := by
  obtain ⟨more, ⟨o, vs, file, tf, flags, tg, inF, text, tt, op, a, r1, r2, r3, r4, r5, r6, b, r⟩, ⟨o', vs', e1, e2⟩, e3⟩ := x
  exact ⟨more, ⟨o, vs, file, tf, flags, tg, inF, text, tt, op, k _ _ (.inl rfl) a, r1, r2, r3, r4, r5, r6, k _ _ (.inr rfl) b, r⟩, ⟨o', vs', k _ _ (.inl rfl) e1, e2⟩, k _ _ (.inr rfl) e3⟩
theorem Cx.Ok.tab_lt {c : Cx} (O : c.Ok) {t : Addr × Addr × Array Value} (h : t ∈ c.tabs) : t.1 < c.base.objs.size ∧ t.2.1 < c.base.objs.size := by
  obtain ⟨⟨⟨o', vs', e1, e2⟩, e3⟩, _⟩ := O.tab t h
  exact ⟨Heap.lt_size e1, Heap.lt_size e3⟩
structure At (c : Cx) (L : Addr) (m : Loc) (mu led : List (Addr × Obj)) (s : Shared) : Prop where
  ok : c.Ok
  ns : Bears s.heap L m
  newL : c.base.objs.size ≤ L
  keep : ∀ b o, c.base.get? b = some o → b ∉ c.tabs.map (·.2.1) → s.heap.get? b = some o
  tab : ∀ t ∈ c.tabs, TabOk s.heap t
  hmu : ∀ p ∈ mu, s.heap.get? p.1 = some p.2 ∧ p.1 ≠ L ∧ c.base.objs.size ≤ p.1
  nod : (mu.map (·.1)).Nodup
  hled : ∀ p ∈ led, s.heap.get? p.1 = some p.2 ∧ p.1 ≠ L ∧ p.1 ∉ mu.map (·.1) ∧ c.base.objs.size ≤ p.1
  gens : AllBare s.gens
  os : s.os = c.os
section
variable {c : Cx} {L : Addr} {m : Loc} {mu led : List (Addr × Obj)} {s : Shared}
theorem Cx.Ok.tabLt (O : c.Ok) {P : Addr} (h : P ∈ c.tabs.map (·.2.1)) : P < c.base.objs.size := by
  obtain ⟨t, ht, rfl⟩ := List.mem_map.mp h
  exact Heap.lt_size (O.tab t ht).1.2
theorem At.sizeLe (S : At c L m mu led s) : c.base.objs.size ≤ s.heap.objs.size := Nat.le_of_lt (Nat.lt_of_le_of_lt S.newL S.ns.lt)
theorem At.muGet (S : At c L m mu led s) {a : Addr} {o : Obj} (h : (a, o) ∈ mu) : s.heap.get? a = some o := (S.hmu _ h).1
theorem At.ledGet (S : At c L m mu led s) {a : Addr} {o : Obj} (h : (a, o) ∈ led) : s.heap.get? a = some o := (S.hled _ h).1
theorem At.top (S : At c L m mu led s) {a : Addr} {o : Obj} (h : c.K.lookup a = some o) : s.heap.get? a = some o :=
  S.keep a o (S.ok.top a o h) (S.ok.noK a o h)
theorem At.inK (S : At c L m mu led s) : c.K.In s.heap := fun _ _ h => S.top h
theorem At.lim (S : At c L m mu led s) : s.heap.NoLimit := by
  obtain ⟨mc, ⟨o, es, ep, ho, r⟩, h⟩ := S.ok.lim
  exact ⟨mc, ⟨o, es, ep, S.keep _ _ ho S.ok.nost, r⟩, h⟩
theorem At.bns (S : At c L m mu led s) : s.heap.Ns builtinsNs c.mb := by
  obtain ⟨o, es, ep, ho, r⟩ := S.ok.bns
  exact ⟨o, es, ep, S.keep _ _ ho S.ok.nogl, r⟩
/-- a state that keeps all that stands: tokens, draws and new objects apart -/
theorem At.ext (S : At c L m mu led s) {s' : Shared} (k : ∀ b o, s.heap.get? b = some o → s'.heap.get? b = some o) (hg : AllBare s'.gens) (ho : s'.os = s.os) : At c L m mu led s' where
  ok := S.ok
  ns := S.ns.keeps k
  newL := S.newL
  keep := fun b o e n => k _ _ (S.keep b o e n)
  tab := fun t ht => (S.tab t ht).of fun b o _ e => k _ _ e
  hmu := fun p hp => ⟨k _ _ (S.hmu p hp).1, (S.hmu p hp).2⟩
  nod := S.nod
  hled := fun p hp => ⟨k _ _ (S.hled p hp).1, (S.hled p hp).2⟩
  gens := hg
  os := ho.trans S.os
theorem At.toks (S : At c L m mu led s) (t : Nat) : At c L m mu led { s with toks := t } := S.ext (fun _ _ e => e) S.gens rfl
theorem At.same (S : At c L m mu led s) {h' : Heap} {t : Nat} (k : ∀ b o, s.heap.get? b = some o → h'.get? b = some o) : At c L m mu led { s with heap := h', toks := t } := S.ext k S.gens rfl
theorem At.ledPush (S : At c L m mu led s) {a : Addr} {o : Obj} (h : s.heap.get? a = some o) (hL : a ≠ L) (hm : a ∉ mu.map (·.1)) (hb : c.base.objs.size ≤ a) : At c L m mu ((a, o) :: led) s :=
  { S with
    hled := fun p hp => by
      rcases List.mem_cons.mp hp with rfl | hp
      · exact ⟨h, hL, hm, hb⟩
      · exact S.hled p hp }
theorem At.muPush (S : At c L m mu led s) {a : Addr} {o : Obj} (h : s.heap.get? a = some o) (hL : a ≠ L) (hm : a ∉ mu.map (·.1)) (hl : a ∉ led.map (·.1)) (hb : c.base.objs.size ≤ a) : At c L m ((a, o) :: mu) led s :=
  { S with
    hmu := fun p hp => by
      rcases List.mem_cons.mp hp with rfl | hp
      · exact ⟨h, hL, hb⟩
      · exact S.hmu p hp
    nod := List.nodup_cons.mpr ⟨hm, S.nod⟩
    hled := fun p hp => ⟨(S.hled p hp).1, (S.hled p hp).2.1, fun q => by
      rcases List.mem_cons.mp q with q | q
      · exact hl (List.mem_map.mpr ⟨p, hp, q⟩)
      · exact (S.hled p hp).2.2.1 q, (S.hled p hp).2.2.2⟩ }
theorem At.muLt (S : At c L m mu led s) {a : Addr} (h : a ∈ mu.map (·.1)) : a < s.heap.objs.size := by
  obtain ⟨p, hp, rfl⟩ := List.mem_map.mp h
  exact Heap.lt_size (S.hmu p hp).1
theorem At.ledLt (S : At c L m mu led s) {a : Addr} (h : a ∈ led.map (·.1)) : a < s.heap.objs.size := by
  obtain ⟨p, hp, rfl⟩ := List.mem_map.mp h
  exact Heap.lt_size (S.hled p hp).1
/-- a new object that will not change -/
theorem At.push (S : At c L m mu led s) {o : Obj} (hf : o.isFreed = false) : At c L m mu ((s.heap.objs.size, o) :: led) { s with heap := s.heap.push o } := by
  have S' : At c L m mu led { s with heap := s.heap.push o } := S.ext (fun _ _ e => Heap.get?_push_of_some _ e) S.gens rfl
  exact S'.ledPush (Heap.get?_push_size _ hf) (Nat.ne_of_gt S.ns.lt) (fun h => Nat.lt_irrefl _ (S.muLt h)) S.sizeLe
/-- a new object that may change -/
theorem At.pushM (S : At c L m mu led s) {o : Obj} (hf : o.isFreed = false) : At c L m ((s.heap.objs.size, o) :: mu) led { s with heap := s.heap.push o } := by
  have S' : At c L m mu led { s with heap := s.heap.push o } := S.ext (fun _ _ e => Heap.get?_push_of_some _ e) S.gens rfl
  exact S'.muPush (Heap.get?_push_size _ hf) (Nat.ne_of_gt S.ns.lt) (fun h => Nat.lt_irrefl _ (S.muLt h)) (fun h => Nat.lt_irrefl _ (S.ledLt h)) S.sizeLe
theorem At.ledSub (S : At c L m mu led s) {led' : List (Addr × Obj)} (h : ∀ p ∈ led', p ∈ led) : At c L m mu led' s :=
  { S with hled := fun p hp => S.hled p (h p hp) }
theorem At.muTail {p : Addr × Obj} (S : At c L m (p :: mu) led s) : At c L m mu led s :=
  { S with
    hmu := fun q hq => S.hmu q (.tail _ hq)
    nod := (List.nodup_cons.mp S.nod).2
    hled := fun q hq => ⟨(S.hled q hq).1, (S.hled q hq).2.1, fun x => (S.hled q hq).2.2.1 (List.mem_cons_of_mem _ x), (S.hled q hq).2.2.2⟩ }
theorem At.freeze {p : Addr × Obj} (S : At c L m (p :: mu) led s) : At c L m mu (p :: led) s :=
  S.muTail.ledPush (S.hmu p (.head _)).1 (S.hmu p (.head _)).2.1 (List.nodup_cons.mp S.nod).1 (S.hmu p (.head _)).2.2
theorem At.perm (S : At c L m mu led s) {mu' : List (Addr × Obj)} (h : mu.Perm mu') : At c L m mu' led s :=
  { S with
    hmu := fun p hp => S.hmu p (h.mem_iff.mpr hp)
    nod := (h.map _).nodup_iff.mp S.nod
    hled := fun p hp => ⟨(S.hled p hp).1, (S.hled p hp).2.1, fun x => (S.hled p hp).2.2.1 ((h.map _).mem_iff.mpr x), (S.hled p hp).2.2.2⟩ }
theorem At.store (S : At c L m mu led s) {h' : Heap} {m' : Loc} {t : Nat} (hn : Bears h' L m') (hs : Heap.SameBut L s.heap h') : At c L m' mu led { s with heap := h', toks := t } where
  ok := S.ok
  ns := hn
  newL := S.newL
  keep := fun b o e n => (hs.2 b (Nat.ne_of_lt (Nat.lt_of_lt_of_le (Heap.lt_size e) S.newL))).trans (S.keep b o e n)
  tab := fun t ht => (S.tab t ht).of fun b o hb e => (hs.2 _ (Nat.ne_of_lt (Nat.lt_of_lt_of_le (hb.elim (fun q => q ▸ (S.ok.tab_lt ht).1) fun q => q ▸ (S.ok.tab_lt ht).2) S.newL))).trans e
  hmu := fun p hp => ⟨(hs.2 _ (S.hmu p hp).2.1).trans (S.hmu p hp).1, (S.hmu p hp).2⟩
  nod := S.nod
  hled := fun p hp => ⟨(hs.2 _ (S.hled p hp).2.1).trans (S.hled p hp).1, (S.hled p hp).2⟩
  gens := S.gens
  os := S.os
theorem set_keys {l : List (Addr × Obj)} {i : Nat} {a : Addr} {o o' : Obj} (h : l[i]? = some (a, o)) : (l.set i (a, o')).map (·.1) = l.map (·.1) := by
  rw [List.map_set]
  apply List.ext_getElem?
  intro j
  rw [List.getElem?_set]
  split
  · rename_i e
    subst e
    split
    · rw [List.getElem?_map, h]; rfl
    · rename_i hl
      rw [List.getElem?_eq_none (Nat.le_of_not_lt hl)]
  · rfl
/-- a change of a thing that may change -/
theorem At.upd (S : At c L m mu led s) {a : Addr} {o : Obj} {f : Obj → Obj} {o' : Obj} {mu' : List (Addr × Obj)} (hset : SetM a o o' mu mu') (e : f o = o') (hf : o'.isFreed = false) :
    At c L m mu' led { s with heap := s.heap.update a f } := by
  obtain ⟨i, h, rfl⟩ := hset.idx
  have hm := List.mem_of_getElem? h
  have ha := S.hmu _ hm
  have hk := set_keys (o' := o') h
  have hs : Heap.SameBut a s.heap (s.heap.update a f) := Heap.SameBut.update ..
  have ge : (s.heap.update a f).get? a = some o' := by rw [← e]; exact Heap.get?_update_self f ha.1 (e ▸ hf)
  refine ⟨S.ok, S.ns.sameBut hs (Ne.symm ha.2.1), S.newL, fun b o e n => ?_, fun t ht => ?_, fun p hp => ?_, by rw [hk]; exact S.nod, fun p hp => ?_, S.gens, S.os⟩
  · exact (hs.2 b (Nat.ne_of_lt (Nat.lt_of_lt_of_le (Heap.lt_size e) ha.2.2))).trans (S.keep b o e n)
  · exact (S.tab t ht).of fun b o hb e => (hs.2 _ (Nat.ne_of_lt (Nat.lt_of_lt_of_le (hb.elim (fun q => q ▸ (S.ok.tab_lt ht).1) fun q => q ▸ (S.ok.tab_lt ht).2) ha.2.2))).trans e
  · obtain ⟨j, hj⟩ := List.getElem?_of_mem hp
    rw [List.getElem?_set] at hj
    by_cases q : i = j
    · rw [if_pos q] at hj
      split at hj
      · cases hj; exact ⟨ge, ha.2⟩
      · cases hj
    · rw [if_neg q] at hj
      have hp' := List.mem_of_getElem? hj
      refine ⟨(hs.2 _ fun z => ?_).trans (S.hmu p hp').1, (S.hmu p hp').2⟩
      have nd := S.nod
      have i1 : (mu.map (·.1))[i]? = some a := by rw [List.getElem?_map, h]; rfl
      have i2 : (mu.map (·.1))[j]? = some a := by rw [List.getElem?_map, hj]; simp [z]
      obtain ⟨l1, e1⟩ := List.getElem?_eq_some_iff.mp i1
      obtain ⟨l2, e2⟩ := List.getElem?_eq_some_iff.mp i2
      exact q ((List.getElem_inj nd).mp (e1.trans e2.symm))
  · rw [hk]
    exact ⟨(hs.2 _ fun z => (S.hled p hp).2.2.1 (List.mem_map.mpr ⟨_, hm, z.symm⟩)).trans (S.hled p hp).1, (S.hled p hp).2⟩
/-- a called def's frame -/
theorem At.enter (S : At c L m mu led s) {s' : Shared} {L' : Addr} {m' : Loc} (hL : s.heap.objs.size ≤ L') (hn : Bears s'.heap L' m') (k : ∀ b o, s.heap.get? b = some o → s'.heap.get? b = some o)
    (hg : s'.gens = s.gens) (ho : s'.os = s.os) : ∃ oL, (∀ h : Heap, h.get? L = some oL → Bears h L m) ∧ (∃ es n, oL.data = .dict es n) ∧ At c L' m' mu ((L, oL) :: led) s' := by
  obtain ⟨dn, fm, ⟨oL, es, ep, hL0, hd, r⟩, hv⟩ := S.ns
  have ltL : L < L' := Nat.lt_of_lt_of_le (Heap.lt_size hL0) hL
  refine ⟨oL, fun h e => ⟨dn, fm, ⟨oL, es, ep, e, hd, r⟩, hv⟩, ⟨es, ep, hd⟩, S.ok, hn, Nat.le_trans S.sizeLe hL, fun b o e n => k _ _ (S.keep b o e n), fun t ht => ?_, fun p hp => ?_, S.nod, fun p hp => ?_, hg ▸ S.gens, ho.trans S.os⟩
  · exact (S.tab t ht).of fun b o _ e => k _ _ e
  · exact ⟨k _ _ (S.hmu p hp).1, Nat.ne_of_lt (Nat.lt_of_lt_of_le (Heap.lt_size (S.hmu p hp).1) hL), (S.hmu p hp).2.2⟩
  · rcases List.mem_cons.mp hp with rfl | hp
    · exact ⟨k _ _ hL0, Nat.ne_of_lt ltL, fun x => by
        obtain ⟨q, hq, e⟩ := List.mem_map.mp x
        exact (S.hmu q hq).2.1 e, S.newL⟩
    · exact ⟨k _ _ (S.hled p hp).1, Nat.ne_of_lt (Nat.lt_of_lt_of_le (Heap.lt_size (S.hled p hp).1) hL), (S.hled p hp).2.2⟩
/-- back in the caller's frame -/
theorem At.back {L' : Addr} {m' : Loc} {led' : List (Addr × Obj)} {oL : Obj} (S : At c L' m' mu led s) (hl : (L, oL) ∈ led) (hn : ∀ h : Heap, h.get? L = some oL → Bears h L m) (hs : ∀ p ∈ led', p ∈ led ∧ p.1 ≠ L) : At c L m mu led' s where
  ok := S.ok
  ns := hn _ (S.hled _ hl).1
  newL := (S.hled _ hl).2.2.2
  keep := S.keep
  tab := S.tab
  hmu := fun p hp => ⟨(S.hmu p hp).1, fun e => (S.hled _ hl).2.2.1 (List.mem_map.mpr ⟨p, hp, e⟩), (S.hmu p hp).2.2⟩
  nod := S.nod
  hled := fun p hp => ⟨(S.hled p (hs p hp).1).1, (hs p hp).2, (S.hled p (hs p hp).1).2.2⟩
  gens := S.gens
  os := S.os
end
/- Fw2 -/
set_option autoImplicit false
abbrev Cx.M (c : Cx) : Model := model c.prog c.w
structure AOk (A : Around) (d : Nat) : Prop where
  handled : A.handled = none
  depth : A.depth ≤ d
  units : A.units ≤ 20 * d
  frames : ∃ l, A.frames = some l
theorem AOk.deeper {A : Around} {d : Nat} (h : AOk A d) (env : Env) : AOk (A.deeper env) (d + 1) :=
  ⟨h.handled, Nat.succ_le_succ h.depth, by show A.units + 3 ≤ _; have := h.units; omega, let ⟨l, e⟩ := h.frames; ⟨env :: l, by show A.frames.map _ = _; rw [e]; rfl⟩⟩
theorem AOk.in1 {A : Around} {d : Nat} (h : AOk A d) : AOk A.in1 (d + 1) :=
  ⟨h.handled, Nat.le_succ_of_le h.depth, by show A.units + 1 ≤ _; have := h.units; omega, h.frames⟩
theorem AOk.mono {A : Around} {d d' : Nat} (h : AOk A d) (hd : d ≤ d') : AOk A d' := ⟨h.handled, Nat.le_trans h.depth hd, by have := h.units; omega, h.frames⟩
theorem AOk.room {A : Around} {d : Nat} (h : AOk A d) (hd : d ≤ 480) : A.depth < recursionLimit := Nat.lt_of_le_of_lt (Nat.le_trans h.depth hd) (by decide)
theorem AOk.croom {A : Around} {d : Nat} (h : AOk A d) (hd : d ≤ 480) : A.units < cLine := Nat.lt_of_le_of_lt h.units (by show 20 * d < 9900; omega)
section
variable {c : Cx} {L : Addr} {m : Loc} {mu led : List (Addr × Obj)} {s : Shared} {A : Around} {E : Value → Shared → Prop} {env : Env} {Q : Value → Shared → Prop}
/-! names -/
theorem r_local {x : Str} {pos : Pos} {v : Value} (S : At c env.locals m mu led s) (hv : (x, some v) ∈ m) (h : Q v s)
    (hk : env.scope.kind = .function) (hl : env.kindOf x = some .local) (hd : (x == ("__debug__" : Str)) = false) : wpAny c.M A (eval (.Name x pos) env) Q E s := by
  obtain ⟨_, f, hn, hf⟩ := S.ns
  exact wpAny_Name (wpAny_loadName_local hk hl hn (hf _ _ hv) h) hd
theorem r_localN {x : Str} {v : Value} (S : At c env.locals m mu led s) (hv : (x, some v) ∈ m) (h : Q v s)
    (hk : env.scope.kind = .function) (hl : env.kindOf x = some .local) : wpAny c.M A (loadName env x) Q E s := by
  obtain ⟨_, f, hn, hf⟩ := S.ns
  exact wpAny_loadName_local hk hl hn (hf _ _ hv) h
abbrev cellO (v : Option Value) : Obj := { cls := .type "cell", data := .cell v }
theorem r_cell {x : Str} {pos : Pos} {a : Addr} {v : Value} (S : At c L m mu led s) (hc : env.cells.lookup x = some a) (hm : (a, cellO (some v)) ∈ mu ∨ (a, cellO (some v)) ∈ led) (h : Q v s)
    (hk : env.scope.kind = .function) (hl : env.kindOf x = some .cell) (hd : (x == ("__debug__" : Str)) = false) : wpAny c.M A (eval (.Name x pos) env) Q E s :=
  wpAny_Name (wpAny_loadName_cell hk hl hc ⟨_, hm.elim S.muGet S.ledGet, rfl⟩ h) hd
theorem r_glob {x : Str} {pos : Pos} {v : Value} (S : At c L m mu led s) (hg : nsIn c.K mainGlobals x = some (some v)) (h : Q v s)
    (hk : env.scope.kind = .function) (hl : env.kindOf x = some .globalImplicit) (hgl : env.globals = mainGlobals) (hd : (x == ("__debug__" : Str)) = false) : wpAny c.M A (eval (.Name x pos) env) Q E s := by
  refine wpAny_Name ?_ hd
  unfold loadName
  simp only [Env.blockKind, hk, hl, ScopeKind.isAnnotationScope, Bool.false_and, Bool.false_eq_true, if_false]
  unfold loadGlobal
  rw [hgl]
  refine wpAny_bind ((looks_nsIn S.inK hg).here ?_)
  exact wpAny_pure h
theorem r_bi {x : Str} {pos : Pos} {v : Value} (S : At c L m mu led s) (hg : nsIn c.K mainGlobals x = some none) (hb : bootBuiltins x = some v) (hn : x ≠ "__name__") (h : Q v s)
    (hk : env.scope.kind = .function) (hl : env.kindOf x = some .globalImplicit) (hgl : env.globals = mainGlobals) (hbi : env.builtins = builtinsNs) (hd : (x == ("__debug__" : Str)) = false) : wpAny c.M A (eval (.Name x pos) env) Q E s := by
  refine wpAny_Name ?_ hd
  unfold loadName
  simp only [Env.blockKind, hk, hl, ScopeKind.isAnnotationScope, Bool.false_and, Bool.false_eq_true, if_false]
  unfold loadGlobal
  rw [hgl, hbi]
  refine wpAny_bind ((looks_nsIn S.inK hg).here ?_)
  dsimp only
  refine wpAny_bind (wpAny_nsGet S.bns ?_)
  rw [S.ok.bb x hn, hb]
  exact wpAny_pure h
/-! stores -/
theorem r_store {x : Str} {v : Value} {m' : Loc} {Q : Unit → Shared → Prop} (S : At c env.locals m mu led s) (hs : SetAt x (some v) m m') (h : ∀ s', At c env.locals m' mu led s' → Q () s')
    (hk : env.scope.kind = .function) (hl : env.kindOf x = some .local) : wpAny c.M A (storeName env x v) Q E s := by
  obtain ⟨nd, f, hn, hf⟩ := S.ns
  refine wpAny_storeName_local hl hn (fun h' hn' hs' => h _ (S.store ⟨by rw [hs.keys]; exact nd, _, hn', fun y u hm => ?_⟩ hs')) (by rw [hk]; rfl)
  rcases hs.mem nd y _ hm with ⟨rfl, e⟩ | ⟨ne, hm'⟩
  · cases e; simp
  · simp only [ne, if_false]; exact hf _ _ hm'
theorem r_storeC {x : Str} {a : Addr} {v : Value} {v₀ : Option Value} {mu' : List (Addr × Obj)} {Q : Unit → Shared → Prop} (S : At c L m mu led s) (hc : env.cells.lookup x = some a)
    (hs : SetM a (cellO v₀) (cellO (some v)) mu mu') (h : ∀ s', At c L m mu' led s' → Q () s')
    (hk : env.scope.kind = .function) (hl : env.kindOf x = some .cell) : wpAny c.M A (storeName env x v) Q E s := by
  unfold storeName
  simp only [hl, hk]
  refine wpAny_bind (wpAny_cellOf hc ?_)
  unfold cellSet
  have hg := S.muGet hs.mem
  refine wpAny_bind (wpAny_load hg ?_)
  exact wpAny_update hg (h _ (S.upd hs rfl rfl))
/-! constants -/
theorem r_int {i : Int} {k : Nat} {pos : Pos} (S : At c L m mu led s) (h : ∀ t s', At c L m mu led s' → Q (.int i t) s') : wpAny c.M A (eval (.Constant (.int i) k pos) env) Q E s :=
  wpAny_Constant_int (h _ _ (S.toks _))
theorem r_str {x : Str} {k : Nat} {pos : Pos} (S : At c L m mu led s) (h : ∀ t s', At c L m mu led s' → Q (.str x t) s') : wpAny c.M A (eval (.Constant (.str x) k pos) env) Q E s :=
  Constant_str (h _ _ (S.toks _))
theorem r_none {k : Nat} {pos : Pos} (h : Q .none s) : wpAny c.M A (eval (.Constant .none k pos) env) Q E s := wpAny_pure h
theorem r_bool {b : Bool} {k : Nat} {pos : Pos} (h : Q (.bool b) s) : wpAny c.M A (eval (.Constant (.bool b) k pos) env) Q E s := wpAny_pure h
/-! ints, texts -/
theorem r_add {a b : Int} {t u : Tok} (S : At c L m mu led s) (h : ∀ t s', At c L m mu led s' → Q (.int (a + b) t) s') : wpAny c.M A (binaryOp .Add (.int a t) (.int b u)) Q E s := add_int (h _ _ (S.toks _))
theorem r_sub {a b : Int} {t u : Tok} (S : At c L m mu led s) (h : ∀ t s', At c L m mu led s' → Q (.int (a - b) t) s') : wpAny c.M A (binaryOp .Sub (.int a t) (.int b u)) Q E s := sub_int (h _ _ (S.toks _))
theorem r_mul {a b : Int} {t u : Tok} (S : At c L m mu led s) (hab : IntMulOk a b) (h : ∀ t s', At c L m mu led s' → Q (.int (a * b) t) s') : wpAny c.M A (binaryOp .Mult (.int a t) (.int b u)) Q E s := mul_int (h _ _ (S.toks _)) hab
theorem r_mod {a b : Int} {t u : Tok} (S : At c L m mu led s) (hb : b ≠ 0) (h : ∀ t s', At c L m mu led s' → Q (.int (Int.fmod a b) t) s') : wpAny c.M A (binaryOp .Mod (.int a t) (.int b u)) Q E s := mod_int hb (h _ _ (S.toks _))
theorem r_cat {x y : Str} {t u : Tok} (S : At c L m mu led s) (hl : x.length + y.length ≤ sizeLine) (h : ∀ t s', At c L m mu led s' → Q (.str (x ++ y) t) s') : wpAny c.M A (binaryOp .Add (.str x t) (.str y u)) Q E s := add_str (fun _ _ => h _ _ (S.toks _)) hl
theorem r_lenStr {x : Str} {t : Tok} (S : At c L m mu led s) (hl : x.length ≤ sizeLine) (h : ∀ t s', At c L m mu led s' → Q (.int x.length t) s') : wpAny c.M A (call (.builtin "len") [.str x t]) Q E s :=
  len_str (by have : sizeLine = 16777216 := by decide
              omega) (h _ _ (S.toks _))
/-! displays -/
abbrev tupO (vs : List Value) : Obj := { cls := .type "tuple", data := .seq vs.toArray }
theorem r_newTuple {vs : List Value} (S : At c L m mu led s) (h : ∀ a s', At c L m mu ((a, tupO vs) :: led) s' → Q (.ref a) s') (hsz : Nat.ble vs.length 16777216 = true) : wpAny c.M A (newTuple vs) Q E s :=
  wpAny_newObj_type (h _ _ (S.push rfl)) (by show vs.toArray.size ≤ sizeLine; rw [List.size_toArray]; exact Nat.le_of_ble_eq_true hsz)
theorem r_newList {vs : List Value} (S : At c L m mu led s) (h : ∀ a s', At c L m ((a, W.listOf vs.toArray 0) :: mu) led s' → Q (.ref a) s') (hsz : Nat.ble vs.length 16777216 = true) : wpAny c.M A (newList vs) Q E s :=
  wpAny_newObj_type (h _ _ (S.pushM rfl)) (by show vs.toArray.size ≤ sizeLine; rw [List.size_toArray]; exact Nat.le_of_ble_eq_true hsz)
end
/- Fw3 -/
set_option autoImplicit false
abbrev fenv (fd : FuncData) (L f : Addr) (cells : List (Str × Addr)) : Env := { scope := fd.scope, locals := L, globals := fd.globals, cells := cells, qual := fd.qualname ++ ".<locals>.", func := some f, code := fd.code, frame := some L, builtins := fd.builtins }
def retOf (fl : Flow) : Value := match fl with | .ret v => v | _ => .none
def nodupB : List Str → Bool
  | [] => true
  | x :: r => !(r.contains x) && nodupB r
theorem nodup_of : ∀ {l : List Str}, nodupB l = true → l.Nodup
  | [], _ => List.nodup_nil
  | x :: r, h => by
    obtain ⟨a, b⟩ := Bool.and_eq_true_iff.mp (show (!(r.contains x) && nodupB r) = true from h)
    refine List.nodup_cons.mpr ⟨fun hm => ?_, nodup_of b⟩
    rw [List.contains_iff_mem.mpr hm] at a
    cases a
/-- the locals that are told are as f says -/
def LocOk (f : Str → Option Value) : Loc → Prop
  | [] => True
  | (x, some v) :: r => f x = some v ∧ LocOk f r
  | (_, none) :: r => LocOk f r
theorem LocOk.all {f : Str → Option Value} : ∀ {l : Loc}, LocOk f l → ∀ x v, (x, some v) ∈ l → f x = some v
  | [], _, _, _, hm => nomatch hm
  | (y, some u) :: r, h, x, v, hm => by
    rcases List.mem_cons.mp hm with e | hm
    · cases e; exact h.1
    · exact LocOk.all h.2 x v hm
  | (y, none) :: r, h, x, v, hm => by
    rcases List.mem_cons.mp hm with e | hm
    · cases e
    · exact LocOk.all (l := r) h x v hm
/-- how the caller gets its frame back -/
def Backs (c : Cx) (L : Addr) (m : Loc) (oL : Obj) : Prop := (∃ es n, oL.data = .dict es n) ∧
  ∀ {L' : Addr} {m' : Loc} {mu led led' : List (Addr × Obj)} {s : Shared}, At c L' m' mu led s → (L, oL) ∈ led → (∀ p ∈ led', p ∈ led ∧ p.1 ≠ L) → At c L m mu led' s
def isDictB (o : Obj) : Bool := match o.data with | .dict .. => true | _ => false
section
variable {c : Cx} {L : Addr} {m : Loc} {mu led : List (Addr × Obj)} {s : Shared} {A : Around} {E : Value → Shared → Prop} {Q : Value → Shared → Prop} {d : Nat}
/-- back in the caller's frame: what it knew, and what is no frame -/
theorem Backs.ret {oL : Obj} {L' : Addr} {m' : Loc} {mu₀ mu' led' led'' : List (Addr × Obj)} {s₀ : Shared} (hb : Backs c L m oL) (S₀ : At c L m mu₀ led s₀) (S : At c L' m' mu' led'' s) (hm : (L, oL) ∈ led'') (hs : ∀ p ∈ led', p ∈ led'' ∧ (p ∈ led ∨ isDictB p.2 = false)) : At c L m mu' led' s :=
  hb.2 S hm fun p hp => ⟨(hs p hp).1, by
    rcases (hs p hp).2 with q | q
    · exact (S₀.hled p q).2.1
    · intro e
      obtain ⟨es, n, hd⟩ := hb.1
      have e1 := (S.hled p (hs p hp).1).1
      rw [e, (S.hled _ hm).1] at e1
      cases e1
      unfold isDictB at q
      rw [hd] at q
      cases q⟩
theorem mem_all_nil {P : Addr × Obj → Prop} : ∀ p ∈ ([] : List (Addr × Obj)), P p := fun _ h => nomatch h
theorem mem_all_cons {P : Addr × Obj → Prop} {x : Addr × Obj} {l : List (Addr × Obj)} (h : P x) (hr : ∀ p ∈ l, P p) : ∀ p ∈ x :: l, P p := fun p hp => by
  rcases List.mem_cons.mp hp with rfl | hp
  · exact h
  · exact hr p hp
theorem r_def {f : Addr} {args : List Value} {kw : List (Str × Value)} {fd : FuncData} {body : List Stmt} {binds : List (Str × Value)} (S : At c L m mu led s) (hA : AOk A d) (hd : d ≤ 480)
    (ho : c.K.lookup f = some { cls := .type "function", data := .func fd }) (hcode : codeIn c.K fd.code fd.qualname = true) (hbody : fd.body = .stmts body) (hbind : BindsTo s fd ⟨args, kw⟩ binds)
    (hcell : (fd.scope.names.all fun x => !(x.2 == NameKind.cell)) = true) (hloc : (binds.all fun x => decide (fd.scope.names.lookup x.1 = some .local)) = true)
    (l : Loc) (hnd : nodupB (l.map (·.1)) = true) (hl : LocOk (fun x => binds.reverse.lookup x) l)
    (hco : fd.scope.isCoroutine = false) (hgen : fd.scope.isGenerator = false) (hk : fd.scope.kind = .function)
    (h : ∀ L' oL s', At c L' l mu ((L, oL) :: led) s' → Backs c L m oL → AOk (A.deeper (fenv fd L' f fd.closure)) (d + 1) →
      wpAny c.M (A.deeper (fenv fd L' f fd.closure)) (execs body (fenv fd L' f fd.closure)) (fun fl s' => Q (retOf fl) s') (fun _ _ => False) s') :
    wpAny c.M A (call (.ref f) args kw) Q E s := by
  refine wpAny_call (codeAny_call_def (hA.room hd) (S.top ho) rfl S.lim (codeRec_of S.inK hcode) hbody hbind (fun x hx e => ?_) (locs hloc) (fun h₀ hns hk₀ => ?_) hco hgen hk)
  · have := List.all_eq_true.mp hcell x hx
    rw [e] at this; cases this
  · obtain ⟨oL, hb, hdict, S'⟩ := S.enter (s' := ⟨h₀, s.gens, s.drawn, s.toks + binds.length, s.os⟩) (Nat.le_refl _) ⟨nodup_of hnd, _, hns, hl.all⟩ hk₀ rfl rfl
    exact wpAny_mono (h _ oL _ S' ⟨hdict, fun T hm hs => T.back hm hb hs⟩ (hA.deeper _)) (fun fl s' q => q) (fun _ _ q => q.elim)
/-! a def with cells: exact objects -/
structure InE (s₀ : Shared) (L : Addr) (m : Str → Option Value) (cs : List (Str × Addr)) (cm : Str → Option Value) (s : Shared) : Prop where
  inc : InCall s₀ L m s
  cell : ∀ n a, cs.lookup n = some a → s.heap.get? a = some (cellO (cm n))
  apart : cs.Pairwise fun x y => x.2 ≠ y.2
  above : ∀ n a, (n, a) ∈ cs → L < a
theorem cells_exact : ∀ (names : List (Str × NameKind)) (h : Heap) (acc : List (Str × Addr)), (∀ n a, (n, a) ∈ acc → h.get? a = some (cellO none)) →
    ∀ n a, (n, a) ∈ cellsFrom h.objs.size names acc → (pushCells h names).get? a = some (cellO none)
  | [], h, acc, H, n, a, hm => H n a hm
  | (x, k) :: r, h, acc, H, n, a, hm => by
    unfold cellsFrom at hm
    unfold pushCells
    split at hm
    · rename_i q
      rw [if_pos q]
      refine cells_exact r (h.push (cellO none)) ((x, h.objs.size) :: acc) (fun n' a' hm' => ?_) n a (by rw [Heap.size_push]; exact hm)
      rcases List.mem_cons.mp hm' with e | hm'
      · cases e; exact Heap.get?_push_size _ rfl
      · exact Heap.get?_push_of_some _ (H n' a' hm')
    · rename_i q
      rw [if_neg q]
      exact cells_exact r h acc H n a hm
theorem inE_store {M : Model} {s₀ : Shared} {env : Env} {n : Str} {v : Value} {m cm : Str → Option Value} {Q : Unit → Shared → Prop} (x : InE s₀ env.locals m env.cells cm s) (hk : env.scope.kind = .function) (hl : env.kindOf n = some .local)
    (h : ∀ s', InE s₀ env.locals (fun y => if y = n then some v else m y) env.cells cm s' → Q () s') : wpAny M A (storeName env n v) Q E s := by
  refine wpAny_storeName_local hl x.inc.ns (fun h' hn' hs' => h _ ⟨⟨?_, hn', fun b o e => ?_, x.inc.fresh⟩, fun k a hc => ?_, x.apart, x.above⟩) (by rw [hk]; rfl)
  · obtain ⟨h₁, tk, rfl⟩ := x.inc.same
    exact ⟨h', _, rfl⟩
  · exact hs'.extBut b o (Nat.ne_of_lt (Nat.lt_of_lt_of_le (Heap.lt_size e) x.inc.fresh)) (x.inc.keep b o e)
  · exact (hs'.2 a (Nat.ne_of_gt (x.above k a (mem_of_lookup hc)))).trans (x.cell k a hc)
theorem inE_storeC {M : Model} {s₀ : Shared} {env : Env} {n : Str} {a : Addr} {v : Value} {m cm : Str → Option Value} {Q : Unit → Shared → Prop} (x : InE s₀ env.locals m env.cells cm s) (hk : env.scope.kind = .function) (hl : env.kindOf n = some .cell)
    (hc : env.cells.lookup n = some a)
    (h : ∀ s', InE s₀ env.locals m env.cells (fun y => if y = n then some v else cm y) s' → Q () s') : wpAny M A (storeName env n v) Q E s := by
  have hLa := x.above n a (mem_of_lookup hc)
  unfold storeName
  simp only [hl, hk]
  refine wpAny_bind (wpAny_cellOf hc ?_)
  unfold cellSet
  have hg := x.cell n a hc
  refine wpAny_bind (wpAny_load hg ?_)
  have hs' : Heap.SameBut a s.heap (s.heap.update a fun o => { o with data := .cell (some v) }) := Heap.SameBut.update ..
  refine wpAny_update hg (h _ ⟨⟨?_, x.inc.ns.sameBut hs' (Nat.ne_of_lt hLa), fun b o e => ?_, x.inc.fresh⟩, fun k a' hk' => ?_, x.apart, x.above⟩)
  · obtain ⟨h₁, tk, rfl⟩ := x.inc.same
    exact ⟨_, _, rfl⟩
  · exact hs'.extBut b o (Nat.ne_of_lt (Nat.lt_trans (Nat.lt_of_lt_of_le (Heap.lt_size e) x.inc.fresh) hLa)) (x.inc.keep b o e)
  · by_cases hkn : k = n
    · subst hkn
      rw [hc] at hk'; cases hk'
      simp only [if_true]
      exact Heap.get?_update_self _ hg rfl
    · rw [if_neg hkn]
      exact (hs'.2 a' fun e => hkn (name_of_addr x.apart (mem_of_lookup hk') (e ▸ mem_of_lookup hc))).trans (x.cell k a' hk')
theorem inE_bind {M : Model} {s₀ : Shared} {env : Env} (f : Str × Value → PUnit → Sem (ForInStep PUnit)) (hf : ∀ n v u, f (n, v) u = (do storeName env n v; pure (.yield ⟨⟩))) (hk : env.scope.kind = .function) :
    ∀ (binds : List (Str × Value)) (m cm : Str → Option Value) (s : Shared) (Q : PUnit → Shared → Prop), InE s₀ env.locals m env.cells cm s →
      (∀ x ∈ binds, env.kindOf x.1 = some .local ∨ (env.kindOf x.1 = some .cell ∧ (env.cells.lookup x.1).isSome = true)) →
      (∀ s', InE s₀ env.locals (bindL env.kindOf binds m) env.cells (bindC env.kindOf binds cm) s' → Q ⟨⟩ s') → wpAny M A (forIn binds ⟨⟩ f) Q E s
  | [], m, cm, s, Q, x, _, h => by rw [List.forIn_nil]; exact wpAny_pure (h s x)
  | (n, v) :: r, m, cm, s, Q, x, hkind, h => by
    rw [List.forIn_cons, hf]
    have hr : ∀ y ∈ r, env.kindOf y.1 = some .local ∨ (env.kindOf y.1 = some .cell ∧ (env.cells.lookup y.1).isSome = true) := fun y hy => hkind y (List.mem_cons_of_mem _ hy)
    rcases hkind (n, v) List.mem_cons_self with hl | ⟨hl, hc⟩
    · refine wpAny_bind (wpAny_bind (inE_store x hk hl fun s' x' => wpAny_pure (inE_bind f hf hk r _ _ s' Q x' hr fun s'' x'' => h s'' ?_)))
      unfold bindL bindC; rw [if_pos hl, if_pos hl]; exact x''
    · obtain ⟨a, hc⟩ := Option.isSome_iff_exists.mp hc
      have hnl : ¬ env.kindOf n = some .local := by rw [hl]; decide
      refine wpAny_bind (wpAny_bind (inE_storeC x hk hl hc fun s' x' => wpAny_pure (inE_bind f hf hk r _ _ s' Q x' hr fun s'' x'' => h s'' ?_)))
      unfold bindL bindC; rw [if_neg hnl, if_neg hnl]; exact x''
theorem inE_new {M : Model} {scope : Scope} {globals : Addr} {binds : List (Str × Value)} {qual : Str} {func : Option Addr} {code : Value} {builtins : Addr} {Q : Env → Shared → Prop}
    (hk : scope.kind = .function)
    (hkind : ∀ x ∈ binds, scope.names.lookup x.1 = some .local ∨ (scope.names.lookup x.1 = some .cell ∧ ((cellsFrom (s.heap.objs.size + 1) scope.names []).lookup x.1).isSome = true))
    (hQ : ∀ env, env = newEnv scope s.heap.objs.size globals (cellsFrom (s.heap.objs.size + 1) scope.names []) qual func code none builtins →
      ∀ s', InE s env.locals (bindL env.kindOf binds fun _ => none) env.cells (bindC env.kindOf binds fun _ => none) s' → Q env s') :
    wpAny M A (newFunctionEnv scope globals [] binds qual func code none builtins) Q E s := by
  simp only [newFunctionEnv, Option.isSome_none, Bool.false_eq_true, if_false]
  refine wpAny_bind (wpAny_alloc ?_)
  refine wpAny_bind (wpAny_layCells _ (fun name kind cells => by cases hkc : kind == NameKind.cell <;> simp [hkc]) _ _ _ _ ?_)
  have ok := cellsFrom_ok scope.names (s.heap.push { cls := .type "frame", data := .dict #[] }) (s.heap.objs.size + 1) [] ⟨fun _ _ hm => (nomatch hm), List.Pairwise.nil⟩ (by rw [Heap.size_push]; exact Nat.le_refl _)
  have ex := cells_exact scope.names (s.heap.push { cls := .type "frame", data := .dict #[] }) [] (fun _ _ hm => nomatch hm)
  rw [Heap.size_push] at ok ex
  rw [show ({ s with heap := s.heap.push { cls := .type "frame", data := .dict #[] } } : Shared).heap.objs.size = s.heap.objs.size + 1 from Heap.size_push ..]
  refine wpAny_bind (inE_bind (s₀ := s) (env := newEnv scope s.heap.objs.size globals (cellsFrom (s.heap.objs.size + 1) scope.names []) qual func code none builtins)
    _ (fun _ _ _ => rfl) hk binds (fun _ => none) (fun _ => none) _ _
    ⟨⟨⟨_, _, rfl⟩, (Heap.Ns.new s.heap (.type "frame")).keeps (pushCells_keeps _ _), fun b o e => pushCells_keeps _ _ b o (Heap.get?_push_of_some _ e), Nat.le_refl _⟩,
      fun n a hc => ex n a (mem_of_lookup hc), ok.apart, fun n a hm => (ok.empty n a hm).2⟩
    hkind fun s' x => wpAny_pure (hQ _ rfl s' x))
/-- the cells, as things that may change -/
def cellsMu (cs : List (Str × Addr)) (cm : Str → Option Value) : List (Addr × Obj) := cs.map fun p => (p.2, cellO (cm p.1))
theorem At.cells {L' : Addr} {cm : Str → Option Value} : ∀ {cs : List (Str × Addr)}, At c L' m mu led s → (cs.Pairwise fun x y => x.2 ≠ y.2) → (∀ n a, (n, a) ∈ cs → L' < a) → (∀ n a, (n, a) ∈ cs → s.heap.get? a = some (cellO (cm n))) →
    (∀ p ∈ mu, p.1 < L') → (∀ p ∈ led, p.1 < L') → At c L' m (cellsMu cs cm ++ mu) led s
  | [], S, _, _, _, _, _ => S
  | (n, a) :: cs, S, ap, ab, ex, hm, hl => by
    have ih := At.cells (cs := cs) (cm := cm) S (List.pairwise_cons.mp ap).2 (fun n a q => ab n a (.tail _ q)) (fun n a q => ex n a (.tail _ q)) hm hl
    refine ih.muPush (ex n a (.head _)) (Nat.ne_of_gt (ab n a (.head _))) (fun q => ?_) (fun q => ?_) (Nat.le_trans S.newL (Nat.le_of_lt (ab n a (.head _))))
    · obtain ⟨p, hp, e⟩ := List.mem_map.mp q
      rcases List.mem_append.mp hp with hp | hp
      · obtain ⟨y, hy, rfl⟩ := List.mem_map.mp hp
        exact (List.pairwise_cons.mp ap).1 y hy e.symm
      · exact absurd e (Nat.ne_of_lt (Nat.lt_trans (hm p hp) (ab n a (.head _))))
    · obtain ⟨p, hp, e⟩ := List.mem_map.mp q
      exact absurd e (Nat.ne_of_lt (Nat.lt_trans (hl p hp) (ab n a (.head _))))
theorem r_defC {f : Addr} {args : List Value} {fd : FuncData} {body : List Stmt} {binds : List (Str × Value)} (S : At c L m mu led s) (hA : AOk A d) (hd : d ≤ 480)
    (ho : c.K.lookup f = some { cls := .type "function", data := .func fd }) (hcode : codeIn c.K fd.code fd.qualname = true) (hbody : fd.body = .stmts body) (hbind : bindArgs fd ⟨args, []⟩ = pure binds) (hclo : fd.closure = [])
    (hkind : ∀ n, ∀ x ∈ binds, fd.scope.names.lookup x.1 = some .local ∨ (fd.scope.names.lookup x.1 = some .cell ∧ ((cellsFrom n fd.scope.names []).lookup x.1).isSome = true))
    (hnn : nodupB ((cellsFrom 0 fd.scope.names []).map (·.1)) = true)
    (l : Loc) (hnd : nodupB (l.map (·.1)) = true) (hl : LocOk (bindL (fun y => fd.scope.names.lookup y) binds (fun _ => none)) l)
    (hco : fd.scope.isCoroutine = false) (hgen : fd.scope.isGenerator = false) (hk : fd.scope.kind = .function)
    (h : ∀ L' oL s', At c L' l (cellsMu (cellsFrom (L' + 1) fd.scope.names []) (bindC (fun y => fd.scope.names.lookup y) binds fun _ => none) ++ mu) ((L, oL) :: led) s' → Backs c L m oL → AOk (A.deeper (fenv fd L' f (cellsFrom (L' + 1) fd.scope.names []))) (d + 1) →
      wpAny c.M (A.deeper (fenv fd L' f (cellsFrom (L' + 1) fd.scope.names []))) (execs body (fenv fd L' f (cellsFrom (L' + 1) fd.scope.names []))) (fun fl s' => Q (retOf fl) s') (fun _ _ => False) s') :
    wpAny c.M A (call (.ref f) args) Q E s := by
  refine wpAny_call (codeAny_call_function (hA.room hd) (S.top ho) rfl hco hgen hbody (codeRec_of S.inK hcode) ?_)
  rw [hbind, hclo]
  refine wpAny_pure (inE_new hk (hkind _) fun env he s' x => ?_)
  subst he
  refine ⟨S.lim.keeps x.inc.keep, codeAny_func ?_⟩
  have hnames : ((cellsFrom (s.heap.objs.size + 1) fd.scope.names []).map (·.1)).Nodup := by rw [cellsFrom_names fd.scope.names _ 0 [] [] rfl]; exact nodup_of hnn
  obtain ⟨h₁, tk, es⟩ := x.inc.same
  obtain ⟨oL, hb, hdict, S'⟩ := S.enter (s' := s') (L' := s.heap.objs.size) (m' := l) (Nat.le_refl _) ⟨nodup_of hnd, _, x.inc.ns, hl.all⟩ x.inc.keep (by rw [es]) (by rw [es])
  have S'' := At.cells (cm := bindC (fun y => fd.scope.names.lookup y) binds fun _ => none) S' x.apart x.above (fun n a hm => x.cell n a (lookup_of_mem_nodup hnames hm)) (fun p hp => Heap.lt_size (S.hmu p hp).1) (fun p hp => by
    rcases List.mem_cons.mp hp with rfl | hp
    · exact S.ns.lt
    · exact Heap.lt_size (S.hled p hp).1)
  exact wpAny_mono (h _ oL _ S'' ⟨hdict, fun T hm hs => T.back hm hb hs⟩ (hA.deeper _)) (fun fl s' q => q) (fun _ _ q => q.elim)
end
/- Fw4 -/
set_option autoImplicit false
section
variable {c : Cx} {L : Addr} {m : Loc} {mu led : List (Addr × Obj)} {s : Shared} {A : Around} {E : Value → Shared → Prop} {env : Env} {Q : Value → Shared → Prop}
def NoShadow (h : Heap) (v : Value) (name : Str) : Prop := match v with
  | .ref a => ∃ o, h.get? a = some o ∧ (o.dict = none ∨ ∃ dx od, o.dict = some dx ∧ h.get? dx = some od ∧ lookIn name od = some none)
  | _ => True
theorem r_meth {v t f : Value} {tf ga : String} {name : Str} {pl : Sem Bool} {Q : Value × List Value → Shared → Prop} (S : At c L m mu led s) (hT : Looks c.M s.heap (typeOf v) t)
    (hga : findIn c.K t "__getattribute__" = some (some (.builtin ga))) (hcan : (Manifest.canonical ga != "object.__getattribute__") = false) (hk : findIn c.K t "__getattr__" = some none)
    (hf : findIn c.K t name = some (some f)) (ht : typeIn c.K f = some (.type tf)) (htf : (tf == "function" || tf == "method_descriptor" || tf == "wrapper_descriptor") = true)
    (hd : NoShadow s.heap v name) (h : Q (f, [v]) s) : wpAny c.M A (getMethod v name pl) Q E s := by
  unfold getMethod specialOf
  refine wpAny_bind (wpAny_bind (hT.here ((looks_findIn S.inK hga).here ?_)))
  dsimp only
  rw [hcan, if_neg (by decide)]
  refine wpAny_bind (wpAny_bind (hT.here ((looks_findIn S.inK hk).here ?_)))
  refine wpAny_bind (wpAny_bind (hT.here ((looks_findIn S.inK hf).here (wpAny_bind ((looks_typeIn S.inK ht).here ?_)))))
  have e : (Value.type tf != .type "function" && Value.type tf != .type "method_descriptor" && Value.type tf != .type "wrapper_descriptor") = false := by
    simp only [Bool.or_eq_true, beq_iff_eq] at htf
    rcases htf with (rfl | rfl) | rfl <;> decide
  rw [if_neg (by rw [e]; decide)]
  cases v with
  | ref a =>
    obtain ⟨o, ho, hd⟩ := hd
    refine wpAny_bind (wpAny_loadPart ho ?_)
    rcases hd with hd | ⟨dx, od, hd, hod, hl⟩
    · rw [hd]; exact wpAny_bind (wpAny_rule (wpAny_pure h))
    · rw [hd]
      dsimp only
      refine wpAny_bind ?_
      unfold nsGet
      refine wpAny_bind (wpAny_loadPart hod ?_)
      rw [nsLook_of hl]
      exact wpAny_pure (wpAny_bind (wpAny_rule (wpAny_pure h)))
  | _ => exact wpAny_bind (wpAny_rule (wpAny_pure h))
/-- a built-in method upon what is an instance of its owner -/
theorem r_callB {v : Value} {id owner n : String} {b : Builtin} {rest : List Value} (hsplit : splitId id = some (owner, n))
    (hkind : (Manifest.find? owner).bind (·.attrs.lookup n) = some .slot ∨ (Manifest.find? owner).bind (·.attrs.lookup n) = some .method) (hq : plainId id = true)
    (hI : Looks c.M s.heap (isInstance v (.type owner)) true) (hb : entryFor table id = some b) (ha : argsOk id ⟨v :: rest, []⟩)
    (h : wpAny c.M A.in1 (b ⟨v :: rest, []⟩) (fun fin s' => ∃ r, fin = .done (.ret r) ∧ Q r s') E s) : wpAny c.M A (call (.builtin id) (v :: rest)) Q E s := by
  refine wpAny_call (codeAny_call_builtin hq hb ?_)
  have hk : builtinKind id = (Manifest.find? owner).bind (·.attrs.lookup n) := by simp only [builtinKind, hsplit]
  have fin : wpAny c.M A.in1 (b ⟨v :: rest, []⟩) (fun fin s' => match fin with
      | .done f => (match (Except.ok f : Result) with | .ok (.ret v) => Q v s' | .ok _ => False | .error e => E e s')
      | .again c' => c'.quiet = true ∧ codeAny c.M A c' (fun r s' => match r with | .ok (.ret v) => Q v s' | .ok _ => False | .error e => E e s') s') E s :=
    wpAny_mono h (fun fin s' z => by obtain ⟨r, rfl, q⟩ := z; exact q) fun _ _ z => z
  rcases hkind with k | k <;>
  · simp only [checkBuiltinCall, hk, k, hsplit]
    refine wpAny_bind (hI.here ?_)
    simp only [Bool.not_true, Bool.false_eq_true, if_false]
    cases hsig : Manifest.signature? id with
    | none => exact wpAny_pure fin
    | some sig =>
      simp only [argsOk, hsig] at ha
      have h2 : Bind.checkArgs id sig ⟨v :: rest, []⟩ = pure () := ha
      show wpAny c.M A.in1 (Bind.checkArgs id sig ⟨v :: rest, []⟩) _ _ _
      rw [h2]; exact wpAny_pure fin
/-- an instance of a class of the text that bears a sequence -/
abbrev accO (C dA : Addr) (vs : List Value) (n : Nat) : Obj := { cls := .ref C, dict := some dA, data := .seq vs.toArray n }
theorem looks_ref {a : Addr} {o : Obj} {t : Value} (h : s.heap.get? a = some o) (e : o.cls = t) : Looks c.M s.heap (typeOf (.ref a)) t := e ▸ (Looks.ld h).andThen .now
theorem looks_isI {v : Value} {C : Addr} {b : Value} {r : Bool} (S : At c L m mu led s) (hT : Looks c.M s.heap (typeOf v) (.ref C)) (e : mroIn c.K C b = some r) : Looks c.M s.heap (isInstance v b) r :=
  hT.andThen (looks_mroIn S.inK e)
theorem r_appendA {C acc dA : Addr} {vs : List Value} {n : Nat} {v : Value} {mu' : List (Addr × Obj)} (S : At c L m mu led s) (hm : SetM acc (accO C dA vs n) (accO C dA (vs ++ [v]) (n + 1)) mu mu')
    (hC : mroIn c.K C (.type "list") = some true) (hsz : vs.length ≤ 1000000) (h : ∀ s', At c L m mu' led s' → Q .none s') : wpAny c.M A (call (.builtin "list.append") [.ref acc, v]) Q E s := by
  have hg := S.muGet hm.mem
  refine r_callB (owner := "list") (n := "append") (by decide +kernel) (.inr (by decide +kernel)) (by decide +kernel) (looks_isI S (looks_ref hg rfl) hC) entry_list_append (args_list_append _ _) ?_
  show wpAny _ _ (updateSeq acc (·.push v) >>= fun _ => ret .none) _ _ s
  refine wpAny_bind (wpAny_updateSeq hg rfl (wpAny_pure ⟨.none, rfl, h _ (S.upd hm ?_ rfl)⟩))
  simp [Obj.mapSeq]
end
/- Fw5 -/
set_option autoImplicit false
section
variable {c : Cx} {L : Addr} {m : Loc} {mu led : List (Addr × Obj)} {s : Shared} {A : Around} {E : Value → Shared → Prop} {env : Env} {Q : Value → Shared → Prop}
/-! attributes -/
theorem r_attr {x dx C : Addr} {dat : Data} {od : Obj} {name : Str} {v : Value} {expr : Bool} (S : At c L m mu led s) (hx : s.heap.get? x = some { cls := .ref C, dict := some dx, data := dat }) (hn : notCls { cls := .ref C, dict := some dx, data := dat } = true) (hd : s.heap.get? dx = some od)
    (hga : findIn c.K (.ref C) "__getattribute__" = some (some (.builtin "object.__getattribute__")))
    (hf : findObj c.K C (some od) name = some (.value v)) (hh : handedIn v = true) (h : ∀ s', At c L m mu led s' → Q v s') : wpAny c.M A (getAttr (.ref x) name expr) Q E s :=
  get_value S.inK ⟨hx, rfl, hn, hd⟩ hga hf hh (h _ (S.toks _))
theorem entry_lga : entryFor table "list.__getattribute__" = some Builtin.«object.__getattribute__» := entryFor_alias (id' := "object.__getattribute__") (by rw [fastTable_eq_tree]; kernel_rfl) (by first | rfl | decide +kernel) (by decide +kernel) (by rw [fastTable_eq_tree]; kernel_rfl)
theorem split_lga : splitId "list.__getattribute__" = some ("list", "__getattribute__") := by decide +kernel
theorem kind_lga : (Manifest.find? "list").bind (·.attrs.lookup "__getattribute__") = some .slot := by decide +kernel
theorem plain_lga : plainId "list.__getattribute__" = true := by decide +kernel
theorem args_lga (a b : Value) : argsOk "list.__getattribute__" ⟨[a, b], []⟩ := by unfold argsOk; kernel_rfl
theorem type_lga {K : Frag} : typeIn K (.builtin "list.__getattribute__") = some (.type "wrapper_descriptor") := by kernel_rfl
theorem r_attrA {x dx C : Addr} {dat : Data} {od : Obj} {name : Str} {v : Value} {expr : Bool} (S : At c L m mu led s) (hx : s.heap.get? x = some { cls := .ref C, dict := some dx, data := dat }) (hn : notCls { cls := .ref C, dict := some dx, data := dat } = true) (hd : s.heap.get? dx = some od)
    (hga : findIn c.K (.ref C) "__getattribute__" = some (some (.builtin "list.__getattribute__"))) (hng : findIn c.K (.ref C) "__getattr__" = some none) (hC : mroIn c.K C (.type "list") = some true)
    (hf : findObj c.K C (some od) name = some (.value v)) (hh : handedIn v = true) (h : ∀ s', At c L m mu led s' → Q v s') : wpAny c.M A (getAttr (.ref x) name expr) Q E s := by
  have I : InstAt s.heap x { cls := .ref C, dict := some dx, data := dat } C (some od) := ⟨hx, rfl, hn, hd⟩
  unfold getAttr getAttrBy
  refine wpAny_bind (wpAny_mkText (wpAny_holding (wpAny_bind ?_)))
  have S1 := S.toks (s.toks + 1)
  have T0 : Looks c.M s.heap (typeOf (.ref x)) (.ref C) := I.type
  refine Looks.here T0 ?_
  refine wpAny_bind (Looks.here (looks_findIn S1.inK hga) ?_)
  dsimp only
  rw [if_neg (by rw [show (Value.builtin "list.__getattribute__" == Value.builtin "object.__getattribute__") = false from by decide, Bool.and_false]; decide)]
  unfold getAttrByItsOwn hookBefore
  refine wpAny_bind ?_
  rw [show onTheHeap (.ref C) = true from rfl, if_pos rfl]
  refine Looks.here (looks_findIn S1.inK hng) ?_
  refine wpAny_bind (wpAny_attempt (wpAny_holding ?_))
  unfold callGetattribute
  rw [if_neg (by cases expr <;> decide)]
  unfold boundAndCalled bindSpecial
  refine wpAny_bind (wpAny_bind (Looks.here (looks_typeIn S1.inK type_lga) ?_))
  rw [if_pos (by decide)]
  refine wpAny_pure ?_
  show wpAny c.M A (call (.builtin "list.__getattribute__") [.ref x, .str name s.toks]) _ _ _
  refine r_callB split_lga (.inl kind_lga) plain_lga (looks_isI S1 (L := L) T0 hC) entry_lga (args_lga _ _) ?_
  unfold Builtin.«object.__getattribute__»
  refine wpAny_bind (wpAny_pure ?_)
  refine wpAny_bind (wpAny_pure ?_)
  refine wpAny_bind (Looks.here T0 ?_)
  refine wpAny_bind (Looks.here (looks_find S1.inK I hf) ?_)
  refine wpAny_pure ⟨v, rfl, ?_⟩
  show wpAny c.M A (handedOut v) Q E _
  rw [handedOut_of hh]
  exact wpAny_pure (h _ S1)
theorem putL_len (name : Str) (hsh : Int) (k k' v : Value) : ∀ es : List DictEntry, (putL name hsh k v es).length = (putL name hsh k' v es).length
  | [] => rfl
  | e :: r => by unfold putL; split <;> simp [putL_len name hsh k k' v r]
open Builtin Builtin.ObjectAttr in
/-- an attribute stored in the object's own dict -/
theorem r_setattr {x dx C : Addr} {dat : Data} {es : List DictEntry} {n : Nat} {cd : ClassData} {name : Str} {v : Value} {mu' : Tok → List (Addr × Obj)} {Q : Unit → Shared → Prop} (S : At c L m mu led s)
    (hx : s.heap.get? x = some { cls := .ref C, dict := some dx, data := dat }) (hn : notCls { cls := .ref C, dict := some dx, data := dat } = true)
    (hs : findIn c.K (.ref C) "__setattr__" = some (some (.builtin "object.__setattr__"))) (hcd : clsIn c.K C = some cd) (hmro : (!cd.mro.isEmpty && cd.mro.contains (.type "object")) = true)
    (hre : refuseLoop (.ref x) "__setattr__" cd.mro = pure ()) (hhd : cd.hasDict = true) (ht : takerIn c.K C name = some none) (hl : (getL name es).isSome = true) (hz : (putL name (PyData.keyHash c.w.params name) (.str name 0) v es).length ≤ 1000)
    (hset : ∀ t, SetM dx (dictOf es n) (dictOf (putL name (PyData.keyHash c.w.params name) (.str name t) v es) (putN name es n)) mu (mu' t))
    (h : ∀ t s', At c L m (mu' t) led s' → Q () s') : wpAny c.M A (setAttr (.ref x) name v) Q E s := by
  have SF := PySem.F.store_object
  have hd := S.muGet (hset 0).mem
  have I : InstAt s.heap x { cls := .ref C, dict := some dx, data := dat } C (some (dictOf es n)) := ⟨hx, rfl, hn, hd⟩
  refine set_plain S.inK I hs ?_
  have S1 := S.toks (s.toks + 1)
  obtain ⟨ne, hob⟩ := Bool.and_eq_true_iff.mp hmro
  have ne : cd.mro.isEmpty = false := by cases q : cd.mro.isEmpty with | true => rw [q] at ne; cases ne | false => rfl
  have sub : Looks c.M s.heap (isInstance (.ref x) (.type "object")) true := I.type.andThen (looks_mroIn S.inK (by unfold mroIn; rw [hcd, Option.bind_some, if_neg (by rw [ne]; decide), hob]))
  refine codeAny_call_builtin SF.slot.plain SF.entry (@check_slot c.M _ _ _ "object.__setattr__" "object" "__setattr__" (.ref x) [.str name s.toks, v] [] _ SF.kind SF.split sub (SF.args (.ref x) (.str name s.toks) v) ?_)
  obtain ⟨attr, ha, hr⟩ := Option.bind_eq_some_iff.mp ht
  have hm : Looks c.M s.heap (mroOf (.ref C)) cd.mro := (looks_clsIn S.inK hcd).andThen .now
  have L3 : Looks c.M s.heap (storeTaker? attr) none := by
    cases attr with
    | none => exact .now
    | some a =>
      obtain ⟨b, hb, e⟩ := Option.map_eq_some_iff.mp hr
      refine (looks_takesIn S.inK hb).andThen ?_
      cases b
      · exact .now
      · cases e
  rw [osa_eq, refuse_eq]
  refine wpAny_bind (wpAny_bind (Looks.here I.type (wpAny_bind (Looks.here hm ?_))))
  rw [hre]
  refine wpAny_pure (wpAny_bind (Looks.here I.type (wpAny_bind (Looks.here (looks_findIn S1.inK ha) (wpAny_bind (Looks.here L3 ?_))))))
  dsimp only
  refine wpAny_bind (wpAny_pure (wpAny_bind (wpAny_bind (wpAny_loadPart hx (wpAny_bind (Looks.here (looks_clsIn S1.inK hcd) ?_))))))
  rw [hhd]
  refine wpAny_pure (a := some dx) (wpAny_bind (wpAny_pure (wpAny_bind ?_)))
  unfold nsSet
  refine wpAny_bind (wpAny_bind (wpAny_askSetting (wpAny_pure (wpAny_bind (wpAny_mkText (wpAny_bind (wpAny_loadPart hd ?_)))))))
  have cc : (!es.toArray.any (·.key.isStr name) && es.toArray.any (·.refKey)) = false := by
    rw [← Array.any_toList, ← Array.any_toList]
    unfold getL at hl
    split at hl
    · rename_i en he
      rw [List.any_eq_true.mpr ⟨en, List.mem_of_find?_eq_some he, List.find?_some he⟩]; rfl
    · split at hl
      · cases hl
      · rename_i z; rw [Bool.not_eq_true] at z; rw [z, Bool.and_false]
  dsimp only
  rw [aRefKeyMayBeTheName_at, cc]
  have S2 := (S.toks (s.toks + 1 + 1)).upd (f := Obj.putName name (PyData.keyHash c.w.params name) (.str name (s.toks + 1)) v) (hset (s.toks + 1)) (putName_dict ..) rfl
  refine wpAny_updatePart hd ?_
  have D' : (s.heap.update dx (Obj.putName name (PyData.keyHash c.w.params name) (.str name (s.toks + 1)) v)).get? dx = some (dictOf (putL name (PyData.keyHash c.w.params name) (.str name (s.toks + 1)) v es) (putN name es n)) := S2.muGet (hset (s.toks + 1)).mem'
  refine wpAny_bind (wpAny_lookBehind D' (pastItsLine_dict (by rw [List.size_toArray, sizeLine_eq, putL_len _ _ _ (.str name 0)]; omega)) ?_)
  exact wpAny_pure (h _ _ S2)
end
/- Fw6 -/
set_option autoImplicit false
/-- a class of the text that is a list, as far as items go -/
structure SubOk (c : Cx) (C : Addr) : Prop where
  gi : findIn c.K (.ref C) "__getitem__" = some (some (.builtin "list.__getitem__"))
  si : findIn c.K (.ref C) "__setitem__" = some (some (.builtin "list.__setitem__"))
  mro : mroIn c.K C (.type "list") = some true
  noseq : noSeq c.K C = true
/-- the thing at a is a list, as far as items go -/
structure LL (c : Cx) (s : Shared) (a : Addr) : Prop where
  ty : ∃ t, Looks c.M s.heap (typeOf (.ref a)) t ∧ findIn c.K t "__getitem__" = some (some (.builtin "list.__getitem__")) ∧ findIn c.K t "__setitem__" = some (some (.builtin "list.__setitem__"))
  key : ∀ k nm, Looks c.M s.heap (sequenceKey (.ref a) k nm) k
  isl : Looks c.M s.heap (isInstance (.ref a) (.type "list")) true
section
variable {c : Cx} {L : Addr} {m : Loc} {mu led : List (Addr × Obj)} {s : Shared} {A : Around} {E : Value → Shared → Prop} {env : Env} {Q : Value → Shared → Prop}
theorem LL.sub {a C : Addr} {o : Obj} (S : At c L m mu led s) (H : SubOk c C) (ho : s.heap.get? a = some o) (hc : o.cls = .ref C) : LL c s a where
  ty := ⟨.ref C, looks_ref ho hc, H.gi, H.si⟩
  key := fun k nm => by
    intro A Q E s' kp q
    unfold sequenceKey
    refine wpAny_bind (looks_ref ho hc A _ E s' kp ?_)
    dsimp only
    refine wpAny_bind (anyM_none S.inK H.noseq A _ E s' kp ?_)
    rw [if_pos (show (!false) = true from rfl)]
    exact wpAny_pure q
  isl := looks_isI S (looks_ref ho hc) H.mro
theorem LL.list {a : Addr} {o : Obj} (ho : s.heap.get? a = some o) (hc : o.cls = .type "list") : LL c s a where
  ty := ⟨.type "list", looks_ref ho hc, by kernel_rfl, by kernel_rfl⟩
  key := fun k nm => by
    intro A Q E s' kp q
    unfold sequenceKey
    refine wpAny_bind (looks_ref ho hc A _ E s' kp ?_)
    dsimp only
    rw [if_pos (by decide)]
    exact wpAny_pure q
  isl := (looks_ref ho hc).andThen (Looks.of_pure (by rw [isSubtype_type]; kernel_rfl))
theorem r_special {v t : Value} {id : String} {tf : String} {name : Str} {args : List Value} {Q : Option Value → Shared → Prop} (X : c.K.In s.heap) (hT : Looks c.M s.heap (typeOf v) t) (hf : findIn c.K t name = some (some (.builtin id)))
    (ht : typeIn c.K (.builtin id) = some (.type tf)) (htf : (tf == "function" || tf == "method_descriptor" || tf == "wrapper_descriptor") = true)
    (h : wpAny c.M A (call (.builtin id) (v :: args)) (fun r s' => Q (some r) s') E s) : wpAny c.M A (callSpecial? v name args) Q E s := by
  unfold callSpecial? specialOf
  refine wpAny_bind (wpAny_bind (hT.here ((looks_findIn X hf).here ?_)))
  refine wpAny_holding (wpAny_bind ?_)
  unfold bindSpecial
  refine wpAny_bind ((looks_typeIn X ht).here ?_)
  have e : (Value.type tf == .type "function" || Value.type tf == .type "method_descriptor" || Value.type tf == .type "wrapper_descriptor") = true := by
    simp only [Bool.or_eq_true, beq_iff_eq] at htf
    rcases htf with (rfl | rfl) | rfl <;> decide
  rw [if_pos e]
  refine wpAny_pure (wpAny_bind ?_)
  exact wpAny_mono h (fun _ _ q => wpAny_pure q) fun _ _ q => q
theorem r_item {a : Addr} {o : Obj} {vs : List Value} {n : Nat} {k : Int} {t : Tok} {v : Value} (S : At c L m mu led s) (H : LL c s a) (ho : s.heap.get? a = some o) (hd : o.data = .seq vs.toArray n) (h0 : 0 ≤ k) (hk : k < 2 ^ 62) (hv : vs[k.toNat]? = some v) (h : Q v s) :
    wpAny c.M A (getItem (.ref a) (.int k t)) Q E s := by
  obtain ⟨tt, hT, hg, _⟩ := H.ty
  unfold getItem
  refine wpAny_holding (wpAny_bind ((H.key _ _).here (wpAny_bind (r_special S.inK hT hg (tf := "method_descriptor") (by kernel_rfl) (by decide) ?_))))
  refine r_callB (owner := "list") (n := "__getitem__") (by decide +kernel) (.inr (by decide +kernel)) (by decide +kernel) H.isl PySem.entry_list_getitem (args_list_getitem _ _) ?_
  show wpAny _ _ (Builtin.List.listSubscript? (.int k t) >>= _) _ _ s
  refine wpAny_bind (wpAny_listSubscript_int (fitsIndex_of h0 (by omega)) ?_)
  obtain ⟨j, rfl⟩ := Int.eq_ofNat_of_zero_le h0
  have hx' : vs.toArray[j]? = some v := by simpa using hv
  show wpAny _ _ ((seqItemAt a j >>= fun r => pure (r.map (j, ·))) >>= _) _ _ s
  refine wpAny_bind (wpAny_bind (wpAny_seqItemAt ho hd (wpAny_pure ?_)))
  rw [hx']
  first
    | exact wpAny_bind (wpAny_pure (wpAny_pure ⟨v, rfl, wpAny_pure h⟩))
    | exact wpAny_pure ⟨v, rfl, wpAny_pure h⟩
/-- a slice, as a step of the walk takes it -/
abbrev sliceO (l u st : Value) : Obj := { cls := .type "slice", data := .fields #[l, u, st] }
theorem r_Slice {lower upper : Option Expr} {p : Pos} {Q : Value → Shared → Prop}
    (h : wpAny c.M A (evalPart lower env) (fun l s₁ => wpAny c.M A (evalPart upper env) (fun u s₂ => ∃ L m mu led, At c L m mu led s₂ ∧ ∀ q s₃, At c L m mu ((q, sliceO l u .none) :: led) s₃ → Q (.ref q) s₃) E s₁) E s) :
    wpAny c.M A (eval (.Slice lower upper none p) env) Q E s := by
  refine wpAny_Slice (wpAny_mono h (fun l s₁ h₁ => wpAny_mono h₁ (fun u s₂ h₂ => ?_) fun _ _ x => x) fun _ _ x => x)
  obtain ⟨L, m, mu, led, S, k⟩ := h₂
  rw [evalPart_none]
  exact wpAny_pure (k _ _ (S.push rfl))
theorem pick_range' (vs : List Value) : ∀ (n a : Nat), a + n ≤ vs.length → (List.range' a n).filterMap (fun i => vs.toArray[i]?) = (vs.drop a).take n
  | 0, a, _ => by simp
  | n + 1, a, h => by
    rw [List.range'_succ, List.filterMap_cons]
    have e : vs.toArray[a]? = some vs[a] := by simp [List.getElem?_eq_getElem (show a < vs.length by omega)]
    rw [e]
    dsimp only
    rw [pick_range' vs n (a + 1) (by omega), List.drop_eq_getElem_cons (show a < vs.length by omega), List.take_succ_cons]
theorem sliceRange_one (a b : Nat) : sliceRange (a : Int) (b : Int) 1 = List.range' a (b - a) := by
  unfold sliceRange
  have e : (if (1 : Int) > 0 then (if (a : Int) < b then ((b : Int) - a + 1 - 1) / 1 else 0) else (if (a : Int) > b then ((a : Int) - b - 1 - 1) / (-1) else 0)).toNat = b - a := by
    simp only [show (1 : Int) > 0 from by decide, if_true]
    split <;> simp <;> omega
  simp only [e]
  rw [List.range'_eq_map_range]
  apply List.map_congr_left
  intro k _
  omega
theorem slicePick_eq (vs : List Value) (lo hi : Option Int) (a b : Nat) (ha : (sliceBounds lo hi none vs.length).1 = a) (hb : (sliceBounds lo hi none vs.length).2.1 = b) (h : a ≤ vs.length) (h' : b ≤ vs.length) : slicePick vs.toArray lo hi none = ((vs.drop a).take (b - a)).toArray := by
  unfold slicePick
  rw [List.size_toArray, ha, hb]
  show ((sliceRange a b 1).filterMap _).toArray = _
  rw [sliceRange_one]
  by_cases hab : a ≤ b
  · rw [pick_range' vs _ _ (by omega)]
  · rw [show b - a = 0 by omega]; simp
theorem slicePick_from (vs : List Value) (k : Nat) (hk : k ≤ vs.length) : slicePick vs.toArray (some (k : Int)) none none = (vs.drop k).toArray := by
  rw [slicePick_eq vs (some k) none k vs.length (by simp [sliceBounds]; omega) (by simp [sliceBounds]) hk (Nat.le_refl _)]
  rw [List.take_of_length_le (by simp)]
theorem slicePick_to (vs : List Value) (k : Nat) : slicePick vs.toArray none (some (k : Int)) none = (vs.take k).toArray := by
  rw [slicePick_eq vs none (some k) 0 (min k vs.length) (by simp [sliceBounds]) (by simp [sliceBounds]; omega) (Nat.zero_le _) (Nat.min_le_right _ _)]
  simp [List.take_eq_take_iff]
theorem r_slice {a q : Addr} {o : Obj} {vs : List Value} {n : Nat} {vl vu : Value} {lo hi : Option Int} (S : At c L m mu led s) (H : LL c s a) (ho : s.heap.get? a = some o) (hd : o.data = .seq vs.toArray n) (hq : (q, sliceO vl vu .none) ∈ led) (pl : IsPart vl lo) (pu : IsPart vu hi)
    (hz : vs.length ≤ 1000000) (h : ∀ b s', At c L m ((b, W.listOf (slicePick vs.toArray lo hi none) 0) :: mu) led s' → Q (.ref b) s') : wpAny c.M A (getItem (.ref a) (.ref q)) Q E s := by
  obtain ⟨tt, hT, hg, _⟩ := H.ty
  have hos := S.ledGet hq
  have hTs : s.TypeIs (.ref q) "slice" := ⟨_, hos, rfl⟩
  unfold getItem
  refine wpAny_holding (wpAny_bind ((H.key _ _).here (wpAny_bind (r_special S.inK hT hg (tf := "method_descriptor") (by kernel_rfl) (by decide) ?_))))
  refine r_callB (owner := "list") (n := "__getitem__") (by decide +kernel) (.inr (by decide +kernel)) (by decide +kernel) H.isl PySem.entry_list_getitem (args_list_getitem _ _) ?_
  show wpAny _ _ (Builtin.List.listSubscript? (.ref q) >>= _) _ _ s
  refine wpAny_bind ?_
  unfold Builtin.List.listSubscript?
  refine wpAny_bind (wpAny_specialOf hTs slice_no_index ?_)
  simp only [Option.isNone_none, if_true]
  refine wpAny_pure ?_
  show wpAny _ _ (typeOf (.ref q) >>= _) _ _ s
  refine wpAny_bind (wpAny_typeOf hTs ?_)
  rw [if_neg (by decide)]
  rw [listSliceParts_eq]
  refine wpAny_bind (wpAny_bind (wpAny_field hos rfl (x := .none) rfl (wpAny_bind (wpAny_listPart .none ?_))))
  rw [if_neg (by decide)]
  refine wpAny_bind (wpAny_field hos rfl (x := vl) rfl (wpAny_bind (wpAny_listPart pl ?_)))
  refine wpAny_bind (wpAny_field hos rfl (x := vu) rfl (wpAny_bind (wpAny_listPart pu (wpAny_pure ?_))))
  refine wpAny_bind (m := Builtin.List.listItems (.ref a)) ?_
  unfold Builtin.List.listItems
  refine wpAny_bind (wpAny_seqItems ho hd (wpAny_pure ?_))
  refine wpAny_bind (wpAny_of_eq (sliceIndices_raw lo hi none vs.toArray.size (by simp)) ?_)
  refine wpAny_bind (wpAny_newObj_type (wpAny_pure ⟨_, rfl, wpAny_pure (h _ _ (S.pushM rfl))⟩) (Nat.le_trans (slicePick_size_le vs.toArray lo hi none) (by rw [List.size_toArray, sizeLine_eq]; omega)))
theorem slice_upd (xs new : Array Value) (a b : Nat) : xs.extract 0 (Int.toNat (a : Int)) ++ new ++ xs.extract (Int.toNat (max (a : Int) (b : Int))) xs.size = (xs.toList.take a ++ new.toList ++ xs.toList.drop (max a b)).toArray := by
  apply Array.ext'
  have e : Int.toNat (max (a : Int) (b : Int)) = max a b := by omega
  rw [e]
  simp [List.extract_eq_take_drop, List.take_of_length_le]
/-- x[lo:hi] = a list -/
theorem r_setSlice {a q b : Addr} {C dA : Addr} {vs ws : List Value} {n : Nat} {ob : Obj} {nb : Nat} {vl vu : Value} {lo hi : Option Int} {la lb : Nat} {mu' : Nat → List (Addr × Obj)} {Q : Unit → Shared → Prop} (S : At c L m mu led s) (H : LL c s a)
    (hm : ∀ n', SetM a (accO C dA vs n) (accO C dA (vs.take la ++ ws ++ vs.drop (max la lb)) n') mu (mu' n'))
    (hb : s.heap.get? b = some ob) (hbc : ob.cls = .type "list") (hbd : ob.data = .seq ws.toArray nb) (hab : a ≠ b) (hq : (q, sliceO vl vu .none) ∈ led) (pl : IsPart vl lo) (pu : IsPart vu hi)
    (hla : (sliceBounds lo hi none vs.length).1 = la) (hlb : (sliceBounds lo hi none vs.length).2.1 = lb)
    (hz : vs.length ≤ 1000000) (hz' : ws.length ≤ 1000000) (h : ∀ n' s', At c L m (mu' n') led s' → Q () s') : wpAny c.M A (setItem (.ref a) (.ref q) (.ref b)) Q E s := by
  obtain ⟨tt, hT, _, hg⟩ := H.ty
  have hos := S.ledGet hq
  have ho := S.muGet (hm 0).mem
  have hTs : s.TypeIs (.ref q) "slice" := ⟨_, hos, rfl⟩
  have hTb : s.TypeIs (.ref b) "list" := ⟨_, hb, hbc⟩
  unfold setItem
  refine wpAny_holding (wpAny_bind ((H.key _ _).here (wpAny_bind (r_special S.inK hT hg (tf := "wrapper_descriptor") (by kernel_rfl) (by decide) ?_))))
  refine r_callB (owner := "list") (n := "__setitem__") (by decide +kernel) (.inl (by decide +kernel)) (by decide +kernel) H.isl PySem.entry_list_setitem (args_list_setitem _ _ _) ?_
  show wpAny _ _ (Builtin.List.listSubscript? (.ref q) >>= _) _ _ s
  refine wpAny_bind ?_
  unfold Builtin.List.listSubscript?
  refine wpAny_bind (wpAny_specialOf hTs slice_no_index ?_)
  simp only [Option.isNone_none, if_true]
  refine wpAny_pure ?_
  show wpAny _ _ (typeOf (.ref q) >>= _) _ _ s
  refine wpAny_bind (wpAny_typeOf hTs ?_)
  rw [if_neg (by decide)]
  rw [listSliceParts_eq]
  refine wpAny_bind (wpAny_bind (wpAny_field hos rfl (x := .none) rfl (wpAny_bind (wpAny_listPart .none ?_))))
  rw [if_neg (by decide)]
  refine wpAny_bind (wpAny_field hos rfl (x := vl) rfl (wpAny_bind (wpAny_listPart pl ?_)))
  refine wpAny_bind (wpAny_field hos rfl (x := vu) rfl (wpAny_bind (wpAny_listPart pu (wpAny_pure ?_))))
  have hsr : Builtin.List.listSameRef (.ref a) (.ref b) = false := by
    show (a == b) = false
    exact beq_eq_false_iff_ne.mpr hab
  dsimp only
  rw [hsr, if_neg (by decide)]
  unfold Builtin.List.listAllItems
  refine wpAny_bind (wpAny_bind (wpAny_typeOf hTb ?_))
  rw [if_pos (by decide)]
  unfold Builtin.List.listItems
  refine wpAny_bind (wpAny_seqItems hb hbd (wpAny_pure ?_))
  refine wpAny_bind (wpAny_bind (wpAny_seqItems ho rfl (wpAny_pure ?_)))
  refine wpAny_bind (wpAny_of_eq (sliceIndices_raw lo hi none vs.toArray.size (by simp)) ?_)
  have e3 : sliceBounds lo hi none vs.toArray.size = ((la : Int), (lb : Int), 1) := by
    rw [List.size_toArray]
    exact Prod.ext hla (Prod.ext hlb rfl)
  rw [e3]
  dsimp only
  rw [if_pos (by decide)]
  refine wpAny_bind (wpAny_rule ?_)
  have hlong : Builtin.List.listTooLong (vs.toArray.size + ws.toArray.size) = false := by
    unfold Builtin.List.listTooLong
    rw [List.size_toArray, List.size_toArray]
    exact decide_eq_false (by rw [sizeLine_eq]; omega)
  rw [hlong, if_neg (by decide)]
  show wpAny _ _ (updateSeq a _ >>= _) _ _ s
  refine wpAny_bind (wpAny_updateSeq ho rfl ?_ (by rw [List.size_toArray, sizeLine_eq]; omega) ?_)
  · refine wpAny_bind (wpAny_letGo (wpAny_pure ⟨.none, rfl, wpAny_pure (h _ _ (S.upd (hm (if (vs.take la ++ ws ++ vs.drop (max la lb)).length == vs.length then n else n + 1)) ?_ rfl))⟩))
    simp only [Obj.mapSeq, slice_upd]
    simp
  · rw [slice_upd, List.size_toArray]
    simp only [List.length_append, List.length_take, List.length_drop, sizeLine_eq]
    omega
end
/- Fw7 -/
set_option autoImplicit false
/-- a thing that bears items, of whatever class -/
def IsSeq (h : Heap) (a : Addr) (vs : List Value) : Prop := ∃ o n, h.get? a = some o ∧ o.data = .seq vs.toArray n
theorem IsSeq.at_ {h h' : Heap} {a : Addr} {vs : List Value} (x : IsSeq h a vs) (e : ∀ o, h.get? a = some o → h'.get? a = some o) : IsSeq h' a vs := let ⟨o, n, g, d⟩ := x; ⟨o, n, e o g, d⟩
section
variable {prog : Program} {w : World} {A : Around} {E : Value → Shared → Prop} {s : Shared}
theorem next_item {it l : Addr} {i : Nat} {vs : List Value} {x : Value} {Q : Option Value → Shared → Prop} (hit : s.heap.IsListIter it l i)
    (hl : IsSeq s.heap l vs) (hx : vs[i]? = some x)
    (hQ : ∀ h', h'.IsListIter it l (i + 1) → Heap.SameBut it s.heap h' → Q (some x) { s with heap := h' }) :
    wpAny (model prog w) A (pyNext (.ref it)) Q E s := by
  obtain ⟨o, ho, hc, hd⟩ := id hit
  obtain ⟨ol, nl, hol, hdl⟩ := hl
  have hx' : vs.toArray[i]? = some x := by simpa using hx
  unfold pyNext
  refine wpAny_bind (wpAny_attempt (wpAny_callSpecial?_slot (name := Str.ofString "__next__") hit.typeIs slot_listiter_next
    (wpAny_call_entry slot_listiter_next hit.typeIs entry_listiter_next ?_ (args_listiter_next _))))
  show wpAny _ _ (field (.ref it) 0 >>= _) _ _ s
  refine wpAny_bind (wpAny_field ho hd (x := .ref l) rfl ?_)
  show wpAny _ _ (if (Value.ref l == Value.none) = true then _ else _) _ _ s
  rw [if_neg (show ¬ ((Value.ref l == Value.none) = true) from Bool.false_ne_true)]
  show wpAny _ _ (field (.ref it) 1 >>= _) _ _ s
  refine wpAny_bind (wpAny_field ho hd (x := .int i 0) rfl ?_)
  show wpAny _ _ (seqItems? (.ref l) >>= _) _ _ s
  refine wpAny_bind (wpAny_seqItems hol hdl ?_)
  simp only [Int.toNat_natCast, hx']
  refine wpAny_bind (wpAny_setField ho hd (by simp) (wpAny_pure ⟨x, rfl, wpAny_pure (hQ _ ?_ (Heap.SameBut.update ..))⟩))
  exact ⟨_, Heap.get?_update_self _ ho (Obj.isFreed_of_fields (Obj.data_mapFields hd _)), (Obj.cls_mapFields ..).trans hc, by
    rw [Obj.data_mapFields hd]; simp [rawInt]⟩
theorem next_end {it l : Addr} {i : Nat} {vs : List Value} {Q : Option Value → Shared → Prop} (hh : A.handled = none)
    (hit : s.heap.IsListIter it l i) (hl : IsSeq s.heap l vs) (hx : vs[i]? = none)
    (hQ : ∀ h', Heap.ExtBut it s.heap h' → Q none { s with heap := h' }) : wpAny (model prog w) A (pyNext (.ref it)) Q E s := by
  obtain ⟨o, ho, hc, hd⟩ := id hit
  obtain ⟨ol, nl, hol, hdl⟩ := hl
  have hx' : vs.toArray[i]? = none := by simpa using hx
  unfold pyNext
  refine wpAny_bind (wpAny_attempt (wpAny_callSpecial?_slot (name := Str.ofString "__next__") hit.typeIs slot_listiter_next
    (wpAny_call_entry slot_listiter_next hit.typeIs entry_listiter_next ?_ (args_listiter_next _))))
  show wpAny _ _ (field (.ref it) 0 >>= _) _ _ s
  refine wpAny_bind (wpAny_field ho hd (x := .ref l) rfl ?_)
  show wpAny _ _ (if (Value.ref l == Value.none) = true then _ else _) _ _ s
  rw [if_neg (show ¬ ((Value.ref l == Value.none) = true) from Bool.false_ne_true)]
  show wpAny _ _ (field (.ref it) 1 >>= _) _ _ s
  refine wpAny_bind (wpAny_field ho hd (x := .int i 0) rfl ?_)
  show wpAny _ _ (seqItems? (.ref l) >>= _) _ _ s
  refine wpAny_bind (wpAny_seqItems hol hdl ?_)
  simp only [Int.toNat_natCast, hx']
  refine wpAny_bind (wpAny_rule (wpAny_bind (wpAny_setField ho hd (by simp) ?_)))
  show wpAny _ _ (newExc (.type "StopIteration") [] >>= _) _ _ _
  refine wpAny_bind ?_
  simp only [newExc, newTuple]
  refine wpAny_bind (wpAny_newObj_type ?_ (by size_fits))
  refine wpAny_bind (m := firstArgMember _ _) (wpAny_of_eq (a := Value.none) (by first | rfl | (simp only [firstArgMember]; rfl)) ?_)
  refine wpAny_newObj_type ?_ (by size_fits)
  simp only [raiseNew]
  refine wpAny_bind (wpAny_handled ?_)
  rw [show A.in1.handled = none from hh]
  refine wpAny_bind (wpAny_pure (wpAny_throw ?_))
  refine wpAny_bind (wpAny_isInstance (T := "StopIteration") (b := true) ⟨_, Heap.get?_push_size _ rfl, rfl⟩ isSubtype_stop ?_)
  exact wpAny_pure (hQ _ (((Heap.SameBut.update ..).extBut.push _).push _))
end
/-- a walk over a thing of pairs -/
theorem walks_pairs {prog : Program} {w : World} {A : Around} (hh : A.handled = none) (I ax : Addr) (hne : ax ≠ I) (vs : List Value) (Ts : Nat → Addr) (vals : Nat → Array Value)
    (hit : ∀ j, j < vs.length → vs[j]? = some (.ref (Ts j))) (hTI : ∀ j, j < vs.length → Ts j ≠ I) :
    WalksU prog w A I (I :: ax :: (List.range vs.length).map Ts) [I] vs.length (fun j v => j < vs.length ∧ v = vals j)
      (fun j h => h.IsListIter I ax j ∧ IsSeq h ax vs ∧ ∀ k, k < vs.length → h.IsTuple (Ts k) (vals k))
      (fun j T h => (j < vs.length ∧ T = Ts j) ∧ h.IsListIter I ax (j + 1) ∧ IsSeq h ax vs ∧ ∀ k, k < vs.length → h.IsTuple (Ts k) (vals k)) where
  sub := fun b hb => by simp at hb; simp [hb]
  frame := fun _ _ _ st hk => ⟨st.1.at fun o e => hk I (by simp) o e, st.2.1.at_ fun o e => hk ax (by simp) o e,
    fun k hk' => (st.2.2 k hk').at fun o e => hk (Ts k) (List.mem_cons_of_mem _ (List.mem_cons_of_mem _ (List.mem_map.mpr ⟨k, List.mem_range.mpr hk', rfl⟩))) o e⟩
  item := fun i s Q E hi st hQ => by
    refine next_item st.1 st.2.1 (x := .ref (Ts i)) (hit i hi) fun h' hit' hs' => ?_
    have tup : ∀ k, k < vs.length → h'.IsTuple (Ts k) (vals k) := fun k hk' => (st.2.2 k hk').extBut hs'.extBut (hTI k hk')
    exact hQ (Ts i) (vals i) h' s.toks ⟨hi, rfl⟩ (tup i hi) ⟨⟨hi, rfl⟩, hit', st.2.1.at_ (fun o e => hs'.extBut _ o hne e), tup⟩ fun b o hb e => hs'.extBut b o (fun h => hb (by simp [h])) e
  go := fun _ _ _ _ _ s Q _ hm hQ => wpAny_letOwnedTupleGo_listiter hm.2.1 (hQ s.heap hm.2 fun _ _ _ e => e)
  apart := fun j T _ hm hmem => by
    rcases List.mem_cons.mp hmem with e | e
    · exact hTI j hm.1.1 (hm.1.2 ▸ e)
    · cases e
  done := fun s Q E st hQ => next_end hh st.1 st.2.1 (by simp) fun h' he' => hQ h' s.toks fun b o hb e => he' b o (fun h => hb (by simp [h])) e
  self := fun _ _ _ _ st hQ => wpAny_pyIter_listiter st.1 hQ
/- Fw8 -/
set_option autoImplicit false
section
variable {c : Cx} {L : Addr} {m : Loc} {mu led : List (Addr × Obj)} {s : Shared} {A : Around} {E : Value → Shared → Prop} {env : Env} {Q : Value → Shared → Prop}
/-- a later state that keeps all but the tables, which have grown at most -/
theorem At.ext' (S : At c L m mu led s) {s' : Shared} (k : ∀ b o, s.heap.get? b = some o → b ∉ c.tabs.map (·.2.1) → s'.heap.get? b = some o) (ht : ∀ t ∈ c.tabs, TabOk s'.heap t) (hg : AllBare s'.gens) (ho : s'.os = s.os) : At c L m mu led s' := by
  have nt : ∀ {a : Addr}, c.base.objs.size ≤ a → a ∉ c.tabs.map (·.2.1) := fun h q => Nat.lt_irrefl _ (Nat.lt_of_lt_of_le (S.ok.tabLt q) h)
  obtain ⟨nd, f, ⟨oL, es, ep, e, r⟩, hv⟩ := S.ns
  exact ⟨S.ok, ⟨nd, f, ⟨oL, es, ep, k _ _ e (nt S.newL), r⟩, hv⟩, S.newL, fun b o e n => k _ _ (S.keep b o e n) n, ht,
    fun p hp => ⟨k _ _ (S.hmu p hp).1 (nt (S.hmu p hp).2.2), (S.hmu p hp).2⟩, S.nod, fun p hp => ⟨k _ _ (S.hled p hp).1 (nt (S.hled p hp).2.2.2), (S.hled p hp).2⟩, hg, ho.trans S.os⟩
theorem At.table (S : At c L m mu led s) {t : Addr × Addr × Array Value} (ht : t ∈ c.tabs) {h' : Heap} {tk : Nat} (hx : Heap.ExtBut t.2.1 s.heap h') (hok : TabOk h' t) : At c L m mu led { s with heap := h', toks := tk } := by
  refine S.ext' (fun b o e n => hx b o (fun q => n (q ▸ List.mem_map_of_mem ht)) e) (fun t' ht' => ?_) S.gens rfl
  by_cases q : t'.2.1 = t.2.1
  · have : t' = t := by
      obtain ⟨i, hi⟩ := List.getElem?_of_mem ht
      obtain ⟨j, hj⟩ := List.getElem?_of_mem ht'
      have i1 : (c.tabs.map (·.2.1))[i]? = some t.2.1 := by rw [List.getElem?_map, hi]; rfl
      have i2 : (c.tabs.map (·.2.1))[j]? = some t.2.1 := by rw [List.getElem?_map, hj]; simp [q]
      obtain ⟨l1, e1⟩ := List.getElem?_eq_some_iff.mp i1
      obtain ⟨l2, e2⟩ := List.getElem?_eq_some_iff.mp i2
      have := (List.getElem_inj S.ok.two).mp (e1.trans e2.symm)
      subst this
      rw [hi] at hj; cases hj; rfl
    rw [this]; exact hok
  · exact (S.tab t' ht').of fun b o hb e => hx b o (fun z => by
      rcases hb with rfl | rfl
      · exact S.ok.cod t' ht' (z ▸ List.mem_map_of_mem ht)
      · exact q z) e
theorem r_genCode {t : Addr × Addr × Array Value} {pos : Pos} {qn : Str} {scope : Scope} (S : At c L m mu led s) (ht : t ∈ c.tabs) (hc : env.code = .ref t.1)
    (h : ∀ c' h' tk, At c L m mu led { s with heap := h', toks := tk } → (∀ b o, s.heap.get? b = some o → b ∉ c.tabs.map (·.2.1) → h'.get? b = some o) → s.heap.objs.size ≤ h'.objs.size → Q c' { s with heap := h', toks := tk }) :
    wpAny c.M A (genexprCode env pos qn scope) Q E s := by
  obtain ⟨more, hok, htab⟩ := S.tab t ht
  cases hf : codeAmong pos (t.2.2 ++ more).toList with
  | some c' => exact wpAny_genexprCode_hit hc hok hf (h c' s.heap s.toks S (fun _ _ e _ => e) (Nat.le_refl _))
  | none =>
    refine wpAny_genexprCodeX hc hok htab hf fun c' h' tk hx hge hlt hok' _ htab' _ => h _ _ _ (S.table ht hx ⟨more ++ #[rawInt pos.line, rawInt pos.col, .ref c'], ?_, ?_⟩) (fun b o e n => hx b o (fun q => n (q ▸ List.mem_map_of_mem ht)) e) (by omega)
    · rw [← Array.append_assoc]; exact hok'
    · rw [← Array.append_assoc]; exact htab'
theorem r_iter0 {a : Addr} {t : Value} (X : c.K.In s.heap) (hT : Looks c.M s.heap (typeOf (.ref a)) t) (hf : findIn c.K t "__iter__" = some (some (.builtin "list.__iter__"))) (hI : Looks c.M s.heap (isInstance (.ref a) (.type "list")) true)
    (h : Q (.ref s.heap.objs.size) { s with heap := s.heap.push { cls := .type "list_iterator", data := .fields #[.ref a, .int 0 0] } }) : wpAny c.M A (pyIter (.ref a)) Q E s := by
  have ht : typeIn c.K (.builtin "list.__iter__") = some (.type "wrapper_descriptor") := by kernel_rfl
  have hb : Looks c.M s.heap (bindSpecial (.builtin "list.__iter__") (.ref a)) (.builtin "list.__iter__", [.ref a]) := (looks_typeIn X ht).andThen (Looks.of_pure (by kernel_rfl))
  unfold pyIter specialOf
  refine wpAny_bind (wpAny_bind (hT.here ((looks_findIn X hf).here ?_)))
  dsimp only
  refine wpAny_bind ?_
  have call1 : ∀ {Q' : Option Value → Shared → Prop}, Q' (some (.ref s.heap.objs.size)) { s with heap := s.heap.push { cls := .type "list_iterator", data := .fields #[.ref a, .int 0 0] } } →
      wpAny c.M A (call (.builtin "list.__iter__") [.ref a] >>= fun v => pure (some v)) Q' E s := fun q => by
    refine wpAny_bind (r_callB (owner := "list") (n := "__iter__") (by decide +kernel) (.inl (by decide +kernel)) (by decide +kernel) hI entry_list_iter (args_list_iter _) ?_)
    show wpAny _ _ (do ret (← newFields "list_iterator" [.ref a, rawInt 0])) _ _ s
    exact wpAny_bind (wpAny_newObj_type (wpAny_pure ⟨_, rfl, wpAny_pure q⟩))
  unfold callSpecialIfBoundUnlessNone? bindSpecialIfBound? specialOf
  refine wpAny_holding (wpAny_bind (wpAny_bind (wpAny_bind (hT.here ((looks_findIn X hf).here ?_)))))
  dsimp only
  refine wpAny_bind (wpAny_askSetting (wpAny_ite ?_))
  have fin : wpAny c.M A (if (Value.builtin "list.__iter__" == Value.none) = true then ((do rule "iter.none"; raiseError "TypeError" s!"'{← typeNameOf (.ref a)}' object is not iterable" : Sem Value) >>= fun v => pure (some v)) else (call (.builtin "list.__iter__") [.ref a] >>= fun v => pure (some v)))
      (fun r s' => wpAny c.M A (match r with
        | some it => (do
          match ← specialOf it "__next__" with
          | none => rule "iter.non-iterator"; raiseError "TypeError" s!"iter() returned non-iterator of type '{← typeNameOf it}'"
          | some _ => pure it)
        | none => (do
          match ← bindSpecialIfBound? (.ref a) "__getitem__" with
          | none => rule "iter.not-iterable"; raiseError "TypeError" s!"'{← typeNameOf (.ref a)}' object is not iterable"
          | some _ => rule "iter.getitem-fallback"; newFields "iterator" [.ref a, ← mkInt 0])) Q E s') E s := by
    rw [if_neg (by decide)]
    refine call1 ?_
    dsimp only
    exact wpAny_bind (wpAny_specialOf (T := "list_iterator") ⟨_, Heap.get?_push_size _ rfl, rfl⟩ slot_listiter_next.lookup (wpAny_pure h))
  split
  · exact wpAny_bind (hb.here (wpAny_pure fin))
  · exact wpAny_tryCatch (wpAny_bind (hb.here (wpAny_pure fin)))
end
/- Fw9 -/
set_option autoImplicit false
/-- one part of a line: the address of its pair, blanks and text -/
structure Part where
  a : Addr
  f : Str
  p : Str
  t : Tok
  u : Tok
def Part.obj (q : Part) : Addr × Obj := (q.a, tupO [.str q.f q.t, .str q.p q.u])
def Part.dflt : Part := ⟨0, ⟨#[]⟩, ⟨#[]⟩, 0, 0⟩
def refsOf (ps : List Part) : List Value := ps.map fun q => .ref q.a
theorem passing_all (n : Nat) : passing (fun _ => true) n 0 = List.range n := by
  unfold passing
  rw [List.drop_zero]
  exact List.filter_eq_self.mpr fun _ _ => rfl
def PartsIn (led : List (Addr × Obj)) (ps : List Part) : Prop := ∀ q ∈ ps, q.obj ∈ led
section
variable {c : Cx} {m : Loc} {mu led : List (Addr × Obj)} {s : Shared} {A : Around} {E : Value → Shared → Prop} {env : Env} {Q : Value → Shared → Prop}
theorem r_genexp {elt : Expr} {xs xa xb : Str} {px pa pb pt pos : Pos} {kt : Nat} {scope : Scope} {cl : List (Str × Addr)} {acc : Addr} {o : Obj} {n : Nat} {tt : Value} {ps : List Part} {t : Addr × Addr × Array Value}
    (S : At c env.locals m mu led s) (hh : A.handled = none) (hroom : A.depth < recursionLimit)
    (hiter : (xs, some (.ref acc)) ∈ m) (hks : env.kindOf xs = some .local) (hkf : env.scope.kind = .function) (hdb : (xs == ("__debug__" : Str)) = false)
    (ho : s.heap.get? acc = some o) (hod : o.data = .seq (refsOf ps).toArray n) (htt : o.cls = tt) (hit : findIn c.K tt "__iter__" = some (some (.builtin "list.__iter__"))) (hI : Looks c.M s.heap (isInstance (.ref acc) (.type "list")) true)
    (hps : PartsIn led ps) (ht : t ∈ c.tabs) (hcode : env.code = .ref t.1) (hgl : env.globals = mainGlobals) (hbi : env.builtins = builtinsNs) (hnt : acc ∉ c.tabs.map (·.2.1))
    (hco : scope.isCoroutine = false) (hclos : closureFor scope env = pure cl) (hcell : ∀ y ∈ scope.names, y.2 ≠ .cell) (h0 : scope.names.lookup (".0" : Str) = some NameKind.local)
    (hxa : scope.names.lookup xa = some .local) (hxb : scope.names.lookup xb = some .local) (hab : xa ≠ xb) (hkind : scope.kind = .function) (hs : ∀ x, genFold (.Name xs px) env x = pure x)
    (F : Nat → Value → Prop)
    (helt : ∀ (C : Addr) (code : Value) (A' : Around) (E' : Value → Shared → Prop) (i : Nat) (q : Part) (s₂ : Shared) (m₂ : Str → Option Value), A'.handled = none → ps[i]? = some q → s₂.heap.Ns C m₂ → m₂ xa = some (.str q.f q.t) → m₂ xb = some (.str q.p q.u) →
      c.K.In s₂.heap → s₂.heap.Ns builtinsNs c.mb → wpAny c.M A' (eval elt (genEnv scope cl C code builtinsNs env)) (fun y s₃ => F i y ∧ Keeps s₂ s₃) E' s₂)
    (h : ∀ a C I h₅ tk gs St fp, gs.bare = true → s.heap.objs.size ≤ I → s.heap.objs.size ≤ C → (∀ b o, s.heap.get? b = some o → b ∉ c.tabs.map (·.2.1) → h₅.get? b = some o) → (∀ t ∈ c.tabs, TabOk h₅ t) →
      WalksS c.prog c.w A.in4 a fp (C :: [I]) (GenOnlyQ s.gens.size) ps.length (fun j y => j < ps.length ∧ F j y) St → St 0 { s with gens := s.gens.push gs, toks := tk, heap := h₅ } →
      (∀ i s, St i s → s.TypeIs (.ref a) "generator") → (∀ b ∈ fp, b < h₅.objs.size) → a ∈ fp → Q (.ref a) { s with gens := s.gens.push gs, toks := tk, heap := h₅ }) :
    wpAny c.M A (eval (.GeneratorExp elt [⟨.Tuple [.Name xa pa, .Name xb pb] kt pt, .Name xs px, [], 0⟩] scope pos) env) Q E s := by
  have hN : ∀ j, j < ps.length → (refsOf ps)[j]? = some (.ref (ps.getD j Part.dflt).a) := fun j hj => by
    simp [refsOf, List.getD, hj]
  have hlen : (refsOf ps).length = ps.length := by simp [refsOf]
  have hpa : ∀ j, j < ps.length → s.heap.get? (ps.getD j Part.dflt).a = some (tupO [.str (ps.getD j Part.dflt).f (ps.getD j Part.dflt).t, .str (ps.getD j Part.dflt).p (ps.getD j Part.dflt).u]) := fun j hj =>
    S.ledGet (hps _ (by simp [List.getD, hj]))
  have hpb : ∀ j, j < ps.length → (ps.getD j Part.dflt).a ∉ c.tabs.map (·.2.1) := fun j hj q => by
    have := (S.hled _ (hps (ps.getD j Part.dflt) (by simp [List.getD, hj]))).2.2.2
    exact Nat.lt_irrefl _ (Nat.lt_of_lt_of_le (S.ok.tabLt q) this)
  refine wpAny_GeneratorExp_walksQT hh hco hclos hcell h0 hxa hxb hab hkind hroom (r_local S hiter ?_ hkf hks hdb) hs
  refine r_iter0 S.inK (looks_ref ho htt) hit hI ?_
  have S2 : At c env.locals m mu led { s with heap := s.heap.push { cls := .type "list_iterator", data := .fields #[.ref acc, .int 0 0] } } := S.ext (fun _ _ e => Heap.get?_push_of_some _ e) S.gens rfl
  refine ⟨S2.lim, r_genCode S2 ht hcode ?_⟩
  intro code h₃ tk₃ S3 k3 sz3
  have gl3 : Heap.Ns h₃ mainGlobals (fun x => (nsIn c.K mainGlobals x).getD none) ∨ True := .inr trivial
  obtain ⟨bm, ob, hb1, hb2, hb3, hb4, hb5, hb6, hb7⟩ := S.ok.bm
  have hbf : wpAny c.M A (builtinsFor env.globals env.builtins) (fun bi s₄ => bi = builtinsNs ∧ s₄ = { s with heap := h₃, toks := tk₃ }) E { s with heap := h₃, toks := tk₃ } := by
    unfold builtinsFor
    rw [hgl]
    refine wpAny_bind ((looks_nsIn S3.inK hb1).here ?_)
    dsimp only
    rw [if_neg (by simpa using hb2)]
    refine wpAny_bind (wpAny_load (S3.keep _ _ hb4 hb3) ?_)
    rw [hb7, hb6, hb5]
    exact wpAny_pure ⟨rfl, rfl⟩
  refine wpAny_mono hbf (fun bi s₄ hq => ?_) fun _ _ e => e
  obtain ⟨rfl, rfl⟩ := hq
  have szI : (s.heap.push { cls := .type "list_iterator", data := .fields #[.ref acc, .int 0 0] } : Heap).objs.size = s.heap.objs.size + 1 := Heap.size_push ..
  have sz3' : s.heap.objs.size + 1 ≤ h₃.objs.size := by rw [← szI]; exact sz3
  have nI : s.heap.objs.size ∉ c.tabs.map (·.2.1) := fun q => Nat.lt_irrefl _ (Nat.lt_of_lt_of_le (S.ok.tabLt q) S.sizeLe)
  have k03 : ∀ b o, s.heap.get? b = some o → b ∉ c.tabs.map (·.2.1) → h₃.get? b = some o := fun b o e nn => k3 b o (Heap.get?_push_of_some _ e) nn
  refine ⟨s.heap.objs.size, s.heap.objs.size :: acc :: (List.range (refsOf ps).length).map (fun j => (ps.getD j Part.dflt).a), [s.heap.objs.size], (refsOf ps).length, _, _, _, fun _ => true, F, rfl,
    fun A' hA' => walks_pairs hA' s.heap.objs.size acc (Nat.ne_of_lt (Heap.lt_size ho)) (refsOf ps) (fun j => (ps.getD j Part.dflt).a) (fun j => #[.str (ps.getD j Part.dflt).f (ps.getD j Part.dflt).t, .str (ps.getD j Part.dflt).p (ps.getD j Part.dflt).u])
      (fun j hj => hN j (hlen ▸ hj)) (fun j hj => Nat.ne_of_lt (Heap.lt_size (hpa j (hlen ▸ hj)))), fun i vals hv => ⟨_, _, hv.2⟩, ?_, ?_, S3.lim, ?_, ?_, ?_⟩
  · refine ⟨⟨_, k3 _ _ (Heap.get?_push_size _ rfl) nI, rfl, rfl⟩, ⟨o, n, k03 _ _ ho hnt, hod⟩, fun k hk => ⟨_, k03 _ _ (hpa k (hlen ▸ hk)) (hpb k (hlen ▸ hk)), rfl, _, rfl⟩⟩
  · intro b hb
    rcases List.mem_cons.mp hb with rfl | hb
    · exact Nat.lt_of_lt_of_le (Nat.lt_succ_self _) sz3'
    · rcases List.mem_cons.mp hb with rfl | hb
      · exact Nat.lt_of_lt_of_le (Heap.lt_size ho) (Nat.le_trans (Nat.le_succ _) sz3')
      · obtain ⟨j, hj, rfl⟩ := List.mem_map.mp hb
        exact Nat.lt_of_lt_of_le (Heap.lt_size (hpa j (hlen ▸ List.mem_range.mp hj))) (Nat.le_trans (Nat.le_succ _) sz3')
  · intro q
    have : cStatics = s.heap.objs.size := by simpa using q
    obtain ⟨mc, ⟨oc, es, ep, e, r⟩, _⟩ := S.lim
    exact absurd (Heap.lt_size e) (by rw [this]; exact Nat.lt_irrefl _)
  · intro href hext
    refine ⟨fun A' E' i va vb s₂ m₂ hA' hP hns h1 h2 hk => wpAny_pure ⟨rfl, s₂.heap, s₂.toks, rfl, fun _ _ e => e⟩, fun A' E' i va vb s₂ m₂ hA' hP _ hns h1 h2 hk => ?_⟩
    obtain ⟨hi, hv⟩ := hP
    rw [hlen] at hi
    have e1 : va = .str (ps.getD i Part.dflt).f (ps.getD i Part.dflt).t := Option.some.inj (show some va = some _ from congrArg (fun x : Array Value => x[0]?) hv)
    have e2 : vb = .str (ps.getD i Part.dflt).p (ps.getD i Part.dflt).u := Option.some.inj (show some vb = some _ from congrArg (fun x : Array Value => x[1]?) hv)
    subst e1 e2
    have up : ∀ b o, h₃.get? b = some o → b < s.heap.objs.size → s₂.heap.get? b = some o := fun b o e lt => hk b (List.mem_range.mpr (Heap.lt_size e)) (fun q => by
      have e' : b = s.heap.objs.size := by simpa using q
      exact absurd lt (e' ▸ Nat.lt_irrefl _)) o (hext b o e)
    refine helt _ _ A' E' i (ps.getD i Part.dflt) s₂ m₂ hA' (by simp [List.getD, hi]) hns h1 h2 (fun a o e => up a o (S3.top e) (Heap.lt_size (S.top e))) ?_
    obtain ⟨ob', es, ep, e, r⟩ := S3.bns
    obtain ⟨ob'', es', ep', e', r'⟩ := S.bns
    exact ⟨ob', es, ep, up _ _ e (Heap.lt_size e'), r⟩
  · intro a h₅ tk gs hgs hlt hsz hk5 W hst
    have hpl : (passing (fun _ => true) (refsOf ps).length 0).length = ps.length := by rw [passing_all, List.length_range, hlen]
    have hpi : ∀ j, (passing (fun _ => true) (refsOf ps).length 0)[j]? = if j < ps.length then some j else none := fun j => by
      rw [passing_all, hlen]
      split
      · rename_i q; rw [List.getElem?_range q]
      · rename_i q; exact List.getElem?_eq_none (by simp; omega)
    refine h a _ _ h₅ tk gs _ _ hgs (Nat.le_refl _) (Nat.le_trans (Nat.le_succ _) sz3') (fun b o e nn => hk5 b o (k03 b o e nn)) (fun t' ht' => (S3.tab t' ht').of fun b o _ e => hk5 b o e)
      { sub := W.sub, grefl := W.grefl, gtrans := W.gtrans, frame := W.frame, item := fun i s' Q' E' hi st hQ => W.item i s' Q' E' (by rw [hpl]; exact hi) st fun v s'' hP st' hm => hQ v s'' ?_ st' hm, done := fun s' Q' E' st hQ => W.done s' Q' E' (by rw [hpl]; exact st) hQ, self := W.self } hst (fun i s' st => ?_) (fun b hb => ?_) (List.mem_cons_self)
    · obtain ⟨j, hj, hF⟩ := hP
      rw [hpi, if_pos hi] at hj
      cases hj
      exact ⟨hi, hF⟩
    · obtain ⟨og, nm, qn, e1, e2, _⟩ := st.1
      exact ⟨og, e1, e2⟩
    · rcases List.mem_cons.mp hb with rfl | hb
      · rw [hsz]; exact Nat.lt_succ_self _
      · rcases List.mem_cons.mp hb with rfl | hb
        · rw [hsz]; exact Nat.lt_succ_of_lt hlt
        · have := List.mem_range.mp hb
          rw [hsz]; exact Nat.lt_succ_of_lt (Nat.lt_trans this hlt)
end
/- Fw10 -/
set_option autoImplicit false
/-- a sum from k₀ on -/
def preK (k₀ : Int) (val : Nat → Int) : Nat → Int
  | 0 => k₀
  | i + 1 => preK k₀ val i + val i
section
variable {prog : Program} {w : World} {A : Around} {R : Result → Shared → Prop} {I : Addr} {fp wr : List Addr} {G : Array GenState → Array GenState → Prop} {n : Nat} {P : Nat → Value → Prop} {St : Nat → Shared → Prop}
theorem sum_loopK (W : WalksS prog w A.in1 I fp wr G n P St) (k₀ : Int) (val : Nat → Int) (hval : ∀ i v, P i v → ∃ t, v = .int (val i) t) (S : Addr) (hSf : S ∉ fp) :
    ∀ (k i : Nat) (s : Shared) (tA : Tok) (c : Nat) (st : Int), (st = 0 ∨ st = 2) → n - i = k → i ≤ n → St i s → s.heap.get? S = some { cls := .type "list", dict := none, data := .seq #[.int (preK k₀ val i) tA] c, slots := #[] } →
    (∀ s' t', Moved (S :: wr) G s s' → R (.ok (.ret (.int (preK k₀ val n) t'))) s') → codeAny (model prog w) A (.builtin "sum.loop" ⟨[.ref I, .ref S, rawInt st, rawInt 0], []⟩) R s := by
  have hSw : S ∉ wr := fun h => hSf (W.sub _ h)
  have hsub : ∀ b ∈ wr, b ∈ S :: wr := fun b hb => List.mem_cons_of_mem _ hb
  intro k
  induction k with
  | zero =>
    intro i s tA c st hst2 hk hi hst hS hR
    have hin : i = n := by omega
    subst hin
    refine codeAny_builtin F.entry_sum_loop ?_
    rw [Around.under_plainId F.plain_sum_loop _]
    show wpAny _ A.in1 (seqItems? (.ref S) >>= _) _ _ s
    refine wpAny_bind (wpAny_seqItems hS rfl ?_)
    show wpAny _ A.in1 (tryCatch (pyNext (.ref I)) _ >>= _) _ _ s
    refine wpAny_bind (wpAny_tryCatch (W.done s _ _ hst fun s' hm => ?_))
    exact wpAny_pure (hR s' tA (hm.mono hsub))
  | succ k ih =>
    intro i s tA c st hst2 hk hi hst hS hR
    have hlt : i < n := by omega
    refine codeAny_builtin F.entry_sum_loop ?_
    rw [Around.under_plainId F.plain_sum_loop _]
    show wpAny _ A.in1 (seqItems? (.ref S) >>= _) _ _ s
    refine wpAny_bind (wpAny_seqItems hS rfl ?_)
    show wpAny _ A.in1 (tryCatch (pyNext (.ref I)) _ >>= _) _ _ s
    refine wpAny_bind (wpAny_tryCatch (W.item i s _ _ hlt hst fun v s' hP hst' hm => ?_))
    obtain ⟨t, rfl⟩ := hval i v hP
    have hS' := hm.heap S _ hSw hS
    rcases hst2 with rfl | rfl
    · show wpAny _ A.in1 (if (_ : Bool) = true then (mkInt (preK k₀ val i + val i) >>= _) else _) _ _ _
      split
      · refine wpAny_bind (wpAny_mkInt ?_)
        show wpAny _ A.in1 (updateSeq S (fun _ => #[.int (preK k₀ val i + val i) s'.toks]) >>= _) _ _ _
        refine wpAny_bind ?_
        refine wpAny_updateSeq hS' rfl (wpAny_pure ⟨plainId_quiet F.plain_sum_loop _, ih (i + 1) _ s'.toks _ 0 (.inl rfl) (by omega) hlt (W.frame _ s' _ _ hst' (by first | exact Nat.le_refl _ | exact Nat.le_succ _ | omega) fun b hb o e => ?_) (Heap.get?_update_self _ hS' rfl) fun s'' t'' hm'' => ?_⟩)
        · exact (Heap.get?_update_other _ _ (fun h : S = b => hSf (by rw [h]; exact hb))).trans e
        · refine hR s'' t'' (Moved.trans W.gtrans ((hm.mono hsub).then_heap (by first | exact Nat.le_refl _ | exact Nat.le_succ _ | omega) fun b o hb e => ?_) hm'')
          exact (Heap.get?_update_other _ _ (fun h : S = b => hb (by rw [h]; exact List.mem_cons_self))).trans e
      · refine wpAny_bind (wpAny_rule ?_)
        refine wpAny_bind (wpAny_attempt (wpAny_holding (wpAny_add_int ?_)))
        show wpAny _ A.in1 (updateSeq S (fun _ => #[.int (preK k₀ val i + val i) s'.toks]) >>= _) _ _ _
        refine wpAny_bind (wpAny_updateSeq hS' rfl ?_)
        have hS₂ := Heap.get?_update_self (Obj.mapSeq fun _ => #[Value.int (preK k₀ val i + val i) s'.toks]) hS' rfl
        refine wpAny_bind (wpAny_letGo ?_)
        refine wpAny_bind (wpAny_updateSeq hS₂ rfl (wpAny_pure ⟨plainId_quiet F.plain_sum_loop _, ih (i + 1) _ s'.toks _ 2 (.inr rfl) (by omega) hlt (W.frame _ s' _ _ hst' (by first | exact Nat.le_refl _ | exact Nat.le_succ _ | omega) fun b hb o e => ?_) (Heap.get?_update_self _ hS₂ rfl) fun s'' t'' hm'' => ?_⟩))
        · exact (Heap.get?_update_other _ _ (fun h : S = b => hSf (by rw [h]; exact hb))).trans ((Heap.get?_update_other _ _ (fun h : S = b => hSf (by rw [h]; exact hb))).trans e)
        · refine hR s'' t'' (Moved.trans W.gtrans ((hm.mono hsub).then_heap (by first | exact Nat.le_refl _ | exact Nat.le_succ _ | omega) fun b o hb e => ?_) hm'')
          exact (Heap.get?_update_other _ _ (fun h : S = b => hb (by rw [h]; exact List.mem_cons_self))).trans ((Heap.get?_update_other _ _ (fun h : S = b => hb (by rw [h]; exact List.mem_cons_self))).trans e)
    · show wpAny _ A.in1 ((holding [Value.int (val i) t] (binaryOp .Add (.int (preK k₀ val i) tA) (.int (val i) t))).attempt >>= _) _ _ _
      refine wpAny_bind (wpAny_attempt (wpAny_holding (wpAny_add_int ?_)))
      show wpAny _ A.in1 (updateSeq S (fun _ => #[.int (preK k₀ val i + val i) s'.toks]) >>= _) _ _ _
      refine wpAny_bind (wpAny_updateSeq hS' rfl ?_)
      have hS₂ := Heap.get?_update_self (Obj.mapSeq fun _ => #[Value.int (preK k₀ val i + val i) s'.toks]) hS' rfl
      refine wpAny_bind (wpAny_letGo ?_)
      refine wpAny_bind (wpAny_updateSeq hS₂ rfl (wpAny_pure ⟨plainId_quiet F.plain_sum_loop _, ih (i + 1) _ s'.toks _ 2 (.inr rfl) (by omega) hlt (W.frame _ s' _ _ hst' (by first | exact Nat.le_refl _ | exact Nat.le_succ _ | omega) fun b hb o e => ?_) (Heap.get?_update_self _ hS₂ rfl) fun s'' t'' hm'' => ?_⟩))
      · exact (Heap.get?_update_other _ _ (fun h : S = b => hSf (by rw [h]; exact hb))).trans ((Heap.get?_update_other _ _ (fun h : S = b => hSf (by rw [h]; exact hb))).trans e)
      · refine hR s'' t'' (Moved.trans W.gtrans ((hm.mono hsub).then_heap (by first | exact Nat.le_refl _ | exact Nat.le_succ _ | omega) fun b o hb e => ?_) hm'')
        exact (Heap.get?_update_other _ _ (fun h : S = b => hb (by rw [h]; exact List.mem_cons_self))).trans ((Heap.get?_update_other _ _ (fun h : S = b => hb (by rw [h]; exact List.mem_cons_self))).trans e)
end
theorem args_sum2 (a b : Value) : argsOk "sum" ⟨[a, b], []⟩ := by unfold argsOk; kernel_rfl
section
variable {prog : Program} {w : World} {A : Around} {E : Value → Shared → Prop} {s : Shared}
/-- sum(a walk, k₀) -/
theorem call_sum2 {I : Addr} {k₀ : Int} {tk : Tok} {fp wr : List Addr} {G : Array GenState → Array GenState → Prop} {n : Nat} {P : Nat → Value → Prop} {St : Nat → Shared → Prop} {Q : Value → Shared → Prop} (W : WalksS prog w A.in1 I fp wr G n P St) (val : Nat → Int)
    (hval : ∀ i v, P i v → ∃ t, v = .int (val i) t) (hst : St 0 s) (hfp : ∀ b ∈ fp, b < s.heap.objs.size) (hQ : ∀ s' t', Moved wr G s s' → Q (.int (preK k₀ val n) t') s') :
    wpAny (model prog w) A (call (.builtin "sum") [.ref I, .int k₀ tk]) Q E s := by
  refine call_function_tree F.kind_sum F.plain_sum F.entry_sum (args_sum2 _ _) ?_
  unfold Builtin.«sum»
  simp only [List.length_cons, List.length_nil]
  rw [if_neg (by decide)]
  refine wpAny_bind (wpAny_of_eq (show Builtin.Builtins.bindParams "sum" ["start"] 0 ⟨[.int k₀ tk], []⟩ = pure [some (.int k₀ tk)] from by kernel_rfl) ?_)
  refine wpAny_bind (W.self 0 s _ _ hst ?_)
  dsimp only
  have body : ∀ (tok : Tok) (stage : Int) (s₂ : Shared), (stage = 0 ∨ stage = 2) → St 0 s₂ → (∀ b ∈ fp, b < s₂.heap.objs.size) → (∀ s' t', Moved wr G s₂ s' → Q (.int (preK k₀ val n) t') s') →
      wpAny (model prog w) A.in1 (do
        for (ty, what, hint) in [("str", "strings", "''"), ("bytes", "bytes", "b''"), ("bytearray", "bytearray", "b''")] do
          if ← isInstance (.int k₀ tok) (.type ty) then
            rule "sum.start-refused"; raiseError "TypeError" s!"sum() can't sum {what} [use {hint}.join(seq) instead]"
        again (.builtin "sum.loop" ⟨[.ref I, ← newList [.int k₀ tok], rawInt stage, rawInt 0], []⟩)) (fun fin s' => match fin with
      | .done f => (match (Except.ok f : Result) with | .ok (.ret v) => Q v s' | .ok _ => False | .error e => E e s')
      | .again c' => c'.quiet = true ∧ codeAny (model prog w) A c' (fun r s' => match r with | .ok (.ret v) => Q v s' | .ok _ => False | .error e => E e s') s') E s₂ := by
    intro tok stage s₂ hstage hst hfp hQ
    simp only [List.forIn_cons, List.forIn_nil]
    refine wpAny_bind (wpAny_bind (wpAny_bind (wpAny_isInstance (T := "int") (b := false) (typeIs_int _ _ _) PySem.sub_int_str ?_)))
    simp only [Bool.false_eq_true, if_false]
    refine wpAny_pure (wpAny_bind (wpAny_bind (wpAny_isInstance (T := "int") (b := false) (typeIs_int _ _ _) PySem.sub_int_bytes ?_)))
    simp only [Bool.false_eq_true, if_false]
    refine wpAny_pure (wpAny_bind (wpAny_bind (wpAny_isInstance (T := "int") (b := false) (typeIs_int _ _ _) PySem.sub_int_bytearray ?_)))
    simp only [Bool.false_eq_true, if_false]
    refine wpAny_pure (wpAny_pure ?_)
    refine wpAny_bind (wpAny_newObj_type ?_)
    have hSf : s₂.heap.objs.size ∉ fp := fun hm => Nat.lt_irrefl _ (hfp _ hm)
    refine wpAny_pure ⟨plainId_quiet F.plain_sum_loop _, sum_loopK W k₀ val hval s₂.heap.objs.size hSf n 0 _ tok 0 stage hstage rfl (Nat.zero_le _)
      (W.frame 0 s₂ _ _ hst (by first | exact Nat.le_refl _ | exact Nat.le_succ _ | omega) fun b _ o e => Heap.get?_push_of_some _ e) (Heap.get?_push_size _ rfl) fun s' t' hm => ?_⟩
    exact hQ s' t' (hm.drop_new (by first | exact Nat.le_refl _ | exact Nat.le_succ _ | omega))
  split
  · refine wpAny_bind (wpAny_rule (wpAny_bind (wpAny_mkInt (wpAny_bind (wpAny_pure ?_)))))
    refine body _ 0 _ (.inl rfl) (W.frame 0 s _ _ hst (Nat.le_succ _) fun b _ o e => e) hfp fun s' t' hm => hQ s' t' ?_
    exact ⟨hm.heap, hm.gens, hm.drawn, hm.os, Nat.le_trans (Nat.le_succ _) hm.toks⟩
  · refine wpAny_bind (wpAny_pure ?_)
    exact body _ 2 _ (.inr rfl) hst hfp hQ
end
/- Fw11 -/
set_option autoImplicit false
section
variable {c : Cx} {L : Addr} {m : Loc} {mu led : List (Addr × Obj)} {s : Shared} {A : Around} {E : Value → Shared → Prop} {env : Env} {Q : Value → Shared → Prop}
/-! names where no frame of ours is at hand -/
theorem x_glob {x : Str} {pos : Pos} {v : Value} (X : c.K.In s.heap) (hg : nsIn c.K mainGlobals x = some (some v)) (h : Q v s)
    (hk : env.scope.kind = .function) (hl : env.kindOf x = some .globalImplicit) (hgl : env.globals = mainGlobals) (hd : (x == ("__debug__" : Str)) = false) : wpAny c.M A (eval (.Name x pos) env) Q E s := by
  refine wpAny_Name ?_ hd
  unfold loadName
  simp only [Env.blockKind, hk, hl, ScopeKind.isAnnotationScope, Bool.false_and, Bool.false_eq_true, if_false]
  unfold loadGlobal
  rw [hgl]
  refine wpAny_bind ((looks_nsIn X hg).here ?_)
  exact wpAny_pure h
theorem x_bi {x : Str} {pos : Pos} {v : Value} (O : c.Ok) (X : c.K.In s.heap) (B : s.heap.Ns builtinsNs c.mb) (hg : nsIn c.K mainGlobals x = some none) (hb : bootBuiltins x = some v) (hn : x ≠ "__name__") (h : Q v s)
    (hk : env.scope.kind = .function) (hl : env.kindOf x = some .globalImplicit) (hgl : env.globals = mainGlobals) (hbi : env.builtins = builtinsNs) (hd : (x == ("__debug__" : Str)) = false) : wpAny c.M A (eval (.Name x pos) env) Q E s := by
  refine wpAny_Name ?_ hd
  unfold loadName
  simp only [Env.blockKind, hk, hl, ScopeKind.isAnnotationScope, Bool.false_and, Bool.false_eq_true, if_false]
  unfold loadGlobal
  rw [hgl, hbi]
  refine wpAny_bind ((looks_nsIn X hg).here ?_)
  dsimp only
  refine wpAny_bind (wpAny_nsGet B ?_)
  rw [O.bb x hn, hb]
  exact wpAny_pure h
theorem x_loc {x : Str} {pos : Pos} {v : Value} {f : Str → Option Value} (hn : s.heap.Ns env.locals f) (hv : f x = some v) (h : Q v s)
    (hk : env.scope.kind = .function) (hl : env.kindOf x = some .local) (hd : (x == ("__debug__" : Str)) = false) : wpAny c.M A (eval (.Name x pos) env) Q E s :=
  wpAny_Name (wpAny_loadName_local hk hl hn hv h) hd
/-- an attribute, the state told -/
theorem r_attrA0 {x dx C : Addr} {dat : Data} {od : Obj} {name : Str} {v : Value} {expr : Bool} (X : c.K.In s.heap) (hx : s.heap.get? x = some { cls := .ref C, dict := some dx, data := dat }) (hn : notCls { cls := .ref C, dict := some dx, data := dat } = true) (hd : s.heap.get? dx = some od)
    (hga : findIn c.K (.ref C) "__getattribute__" = some (some (.builtin "list.__getattribute__"))) (hng : findIn c.K (.ref C) "__getattr__" = some none) (hC : mroIn c.K C (.type "list") = some true)
    (hf : findObj c.K C (some od) name = some (.value v)) (hh : handedIn v = true) (h : Q v { s with toks := s.toks + 1 }) : wpAny c.M A (getAttr (.ref x) name expr) Q E s := by
  have I : InstAt s.heap x { cls := .ref C, dict := some dx, data := dat } C (some od) := ⟨hx, rfl, hn, hd⟩
  unfold getAttr getAttrBy
  refine wpAny_bind (wpAny_mkText (wpAny_holding (wpAny_bind ?_)))
  have T0 : Looks c.M s.heap (typeOf (.ref x)) (.ref C) := I.type
  refine Looks.here T0 ?_
  refine wpAny_bind (Looks.here (looks_findIn X hga) ?_)
  dsimp only
  rw [if_neg (by rw [show (Value.builtin "list.__getattribute__" == Value.builtin "object.__getattribute__") = false from by decide, Bool.and_false]; decide)]
  unfold getAttrByItsOwn hookBefore
  refine wpAny_bind ?_
  rw [show onTheHeap (.ref C) = true from rfl, if_pos rfl]
  refine Looks.here (looks_findIn X hng) ?_
  refine wpAny_bind (wpAny_attempt (wpAny_holding ?_))
  unfold callGetattribute
  rw [if_neg (by cases expr <;> decide)]
  unfold boundAndCalled bindSpecial
  refine wpAny_bind (wpAny_bind (Looks.here (looks_typeIn X type_lga) ?_))
  rw [if_pos (by decide)]
  refine wpAny_pure ?_
  show wpAny c.M A (call (.builtin "list.__getattribute__") [.ref x, .str name s.toks]) _ _ _
  refine r_callB split_lga (.inl kind_lga) plain_lga (Looks.andThen T0 (looks_mroIn X hC)) entry_lga (args_lga _ _) ?_
  unfold Builtin.«object.__getattribute__»
  refine wpAny_bind (wpAny_pure ?_)
  refine wpAny_bind (wpAny_pure ?_)
  refine wpAny_bind (Looks.here T0 ?_)
  refine wpAny_bind (Looks.here (looks_find X I hf) ?_)
  refine wpAny_pure ⟨v, rfl, ?_⟩
  show wpAny c.M A (handedOut v) Q E _
  rw [handedOut_of hh]
  exact wpAny_pure h
/-- what a line weighs -/
def lenOf (ps : List Part) : Nat := (ps.map fun q => q.f.length + q.p.length).sum
theorem preK_parts (k₀ : Int) (ps : List Part) : preK k₀ (fun i => (((ps.getD i Part.dflt).f.length + (ps.getD i Part.dflt).p.length : Nat) : Int)) ps.length = k₀ + lenOf ps := by
  have gen : ∀ i, i ≤ ps.length → preK k₀ (fun i => (((ps.getD i Part.dflt).f.length + (ps.getD i Part.dflt).p.length : Nat) : Int)) i = k₀ + lenOf (ps.take i) := by
    intro i
    induction i with
    | zero => intro _; simp [preK, lenOf]
    | succ i ih =>
      intro hi
      have e : ps.take (i + 1) = ps.take i ++ [ps.getD i Part.dflt] := by
        rw [List.take_succ]
        simp [List.getD, show i < ps.length by omega]
      rw [preK, ih (by omega), e]
      simp only [lenOf, List.map_append, List.sum_append, List.map_cons, List.map_nil, List.sum_cons, List.sum_nil]
      omega
  rw [gen ps.length (Nat.le_refl _), List.take_length]
end
/- Fw12 -/
set_option autoImplicit false
section
variable {c : Cx} {L : Addr} {m : Loc} {mu led : List (Addr × Obj)} {s : Shared} {A : Around} {E : Value → Shared → Prop} {env : Env} {Q : Value → Shared → Prop}
/-- after a generator has been walked -/
theorem At.afterGen (S : At c L m mu led s) {h₅ : Heap} {tk : Nat} {gs : GenState} {C I : Addr} {s' : Shared} (hb : gs.bare = true) (hI : s.heap.objs.size ≤ I) (hC : s.heap.objs.size ≤ C)
    (hk : ∀ b o, s.heap.get? b = some o → b ∉ c.tabs.map (·.2.1) → h₅.get? b = some o) (ht : ∀ t ∈ c.tabs, TabOk h₅ t)
    (hm : Moved (C :: [I]) (GenOnlyQ s.gens.size) { s with gens := s.gens.push gs, toks := tk, heap := h₅ } s') : At c L m mu led s' := by
  have ne : ∀ b, b < s.heap.objs.size → b ∉ [C, I] := fun b hb hm => by
    simp only [List.mem_cons, List.not_mem_nil, or_false] at hm
    rcases hm with rfl | rfl <;> omega
  refine S.ext' (fun b o e n => hm.heap b o (ne b (Heap.lt_size e)) (hk b o e n)) (fun t h => (ht t h).of fun b o hb e => hm.heap b o (ne b ?_) e) ((S.gens.push hb).moved hm.gens) hm.os
  refine Nat.lt_of_lt_of_le ?_ S.sizeLe
  rcases hb with rfl | rfl
  · exact (S.ok.tab_lt h).1
  · exact (S.ok.tab_lt h).2
/-- an accumulator's dict -/
abbrev accD (w : World) (t : Tok) (k : Int) (u : Tok) : Obj := dictOf [⟨PyData.keyHash w.params "_initial_size", .str "_initial_size" t, .int k u⟩] 1
theorem le_sz {n : Nat} (h : n ≤ 16000000) : n ≤ sizeLine := Nat.le_trans h (by decide)
/-- what a line reads -/
def partText (q : Part) : Str := q.f ++ q.p
def textOf (ps : List Part) : Str := Str.join "" (ps.map partText)
theorem str_nil_mid (x y : Str) : x ++ ("" : Str) ++ y = x ++ y := by
  show (⟨(x.cps ++ #[]) ++ y.cps⟩ : Str) = ⟨x.cps ++ y.cps⟩
  simp
theorem join2_part (q : Part) : Txt.join "" [q.f, q.p] = partText q := by
  show Builtin.Str.glued "" [q.f, q.p] = _
  rw [StrLaws.glued_eq_join]
  exact str_nil_mid q.f q.p
theorem texts_of_items {ps : List Part} {l : List (Str × Tok)} (h : ItemsOf (fun j y => j < ps.length ∧ ∃ tt, y = .str (partText (ps.getD j Part.dflt)) tt) (strValues l).toArray ps.length) : l.map (·.1) = ps.map partText := by
  have hl : l.length = ps.length := by
    have := h.1
    simpa [strValues] using this
  apply List.ext_getElem (by simpa using hl)
  intro i h1 h2
  simp only [List.length_map] at h1 h2
  obtain ⟨_, tt, e⟩ := h.2 i (.str l[i].1 l[i].2) (by simp [strValues, h1])
  simp only [List.getElem_map]
  have e2 : l[i].1 = partText (ps.getD i Part.dflt) := by injection e
  rw [e2, List.getD_eq_getElem?_getD, List.getElem?_eq_getElem h2]
  rfl
theorem lenOf_texts (ps : List Part) : ((ps.map partText).map (·.length)).sum = lenOf ps := by
  unfold lenOf
  rw [List.map_map]
  congr 1
  apply List.map_congr_left
  intro q _
  show (q.f ++ q.p).length = _
  rw [Str.length_append]
theorem r_def0 {d : Nat} {R : Result → Shared → Prop} {f : Addr} {args : List Value} {kw : List (Str × Value)} {fd : FuncData} {body : List Stmt} {binds : List (Str × Value)} (S : At c L m mu led s) (hA : AOk A d) (hd : d ≤ 480)
    (ho : c.K.lookup f = some { cls := .type "function", data := .func fd }) (hcode : codeIn c.K fd.code fd.qualname = true) (hbody : fd.body = .stmts body) (hbind : BindsTo s fd ⟨args, kw⟩ binds)
    (hcell : (fd.scope.names.all fun x => !(x.2 == NameKind.cell)) = true) (hloc : (binds.all fun x => decide (fd.scope.names.lookup x.1 = some .local)) = true)
    (l : Loc) (hnd : nodupB (l.map (·.1)) = true) (hl : LocOk (fun x => binds.reverse.lookup x) l)
    (hco : fd.scope.isCoroutine = false) (hgen : fd.scope.isGenerator = false) (hk : fd.scope.kind = .function)
    (h : ∀ L' oL s', At c L' l mu ((L, oL) :: led) s' → Backs c L m oL → AOk (A.deeper (fenv fd L' f fd.closure)) (d + 1) →
      wpAny c.M (A.deeper (fenv fd L' f fd.closure)) (execs body (fenv fd L' f fd.closure)) (fun fl s' => R (.ok (.ret (retOf fl))) s') (fun _ _ => False) s') :
    codeAny c.M A (.call (.ref f) ⟨args, kw⟩) R s := by
  refine codeAny_call_def (hA.room hd) (S.top ho) rfl S.lim (codeRec_of S.inK hcode) hbody hbind (fun x hx e => ?_) (locs hloc) (fun h₀ hns hk₀ => ?_) hco hgen hk
  · have := List.all_eq_true.mp hcell x hx
    rw [e] at this; cases this
  · obtain ⟨oL, hb, hdict, S'⟩ := S.enter (s' := ⟨h₀, s.gens, s.drawn, s.toks + binds.length, s.os⟩) (Nat.le_refl _) ⟨nodup_of hnd, _, hns, hl.all⟩ hk₀ rfl rfl
    exact wpAny_mono (h _ oL _ S' ⟨hdict, fun T hm hs => T.back hm hb hs⟩ (hA.deeper _)) (fun fl s' q => q) (fun _ _ q => q.elim)
end
/- Fw13 -/
set_option autoImplicit false
abbrev boundO (bt id : String) (x : Addr) : Obj := { cls := .type bt, data := .fields #[.builtin id, .ref x] }
theorem slot_wd : Slot "wrapper_descriptor" "__get__" "wrapper_descriptor.__get__" :=
  .of (owner := "wrapper_descriptor") (n := "__get__") (by rw [typeLookup_type, builtinLookup_eq_fast]; kernel_rfl) (by decide +kernel) (by decide +kernel) (by decide +kernel)
    (by first | exact .inl (by decide +kernel) | exact .inr (by decide +kernel)) (by rw [isSubtype_type]; kernel_rfl)
theorem entry_wd : entryFor table "wrapper_descriptor.__get__" = some Builtin.«wrapper_descriptor.__get__» := entryFor_of_tree (by kernel_rfl)
theorem args_wd (a b c : Value) : argsOk "wrapper_descriptor.__get__" ⟨[a, b, c], []⟩ := by unfold argsOk; kernel_rfl
theorem slot_md : Slot "method_descriptor" "__get__" "method_descriptor.__get__" :=
  .of (owner := "method_descriptor") (n := "__get__") (by rw [typeLookup_type, builtinLookup_eq_fast]; kernel_rfl) (by decide +kernel) (by decide +kernel) (by decide +kernel)
    (by first | exact .inl (by decide +kernel) | exact .inr (by decide +kernel)) (by rw [isSubtype_type]; kernel_rfl)
theorem entry_md : entryFor table "method_descriptor.__get__" = some Builtin.«method_descriptor.__get__» := entryFor_of_tree (by kernel_rfl)
theorem args_md (a b c : Value) : argsOk "method_descriptor.__get__" ⟨[a, b, c], []⟩ := by unfold argsOk; kernel_rfl
theorem own_len : (kfb_private% "ownerAndName") "list.__len__" = ("list", "__len__") := by first | decide +kernel | kernel_rfl
theorem own_init : (kfb_private% "ownerAndName") "list.__init__" = ("list", "__init__") := by first | decide +kernel | kernel_rfl
theorem own_pop : (kfb_private% "ownerAndName") "list.pop" = ("list", "pop") := by first | decide +kernel | kernel_rfl
section
variable {prog : Program} {w : World} {M : Model} {A : Around} {E : Value → Shared → Prop} {s : Shared}
theorem chk {id n : String} {x : Addr} {Q : Unit → Shared → Prop} (ho : (kfb_private% "ownerAndName") id = ("list", n)) (hI : Looks M s.heap (isInstance (.ref x) (.type "list")) true) (h : Q () s) : wpAny M A ((kfb_private% "checkInstance") (.builtin id) (.ref x)) Q E s := by
  show wpAny M A ((kfb_private% "nameAndClass") (.builtin id) >>= _) Q E s
  refine wpAny_bind (wpAny_of_eq (a := ((n : Str), .type "list")) ?_ ?_)
  · show (pure (((((kfb_private% "ownerAndName") id).2 : String) : Str), Value.type ((kfb_private% "ownerAndName") id).1) : Sem (Str × Value)) = _
    rw [ho]
  · refine wpAny_bind (hI.here ?_)
    exact KFB.if_not rfl (wpAny_pure h)
theorem bindB {bt id n : String} {x : Addr} {P : Fin → Shared → Prop} (ho : (kfb_private% "ownerAndName") id = ("list", n)) (hI : Looks M s.heap (isInstance (.ref x) (.type "list")) true) (h : P (.done (.ret (.ref s.heap.objs.size))) { s with heap := s.heap.push (boundO bt id x) }) :
    wpAny M A ((kfb_private% "bindBuiltin") bt (.builtin id) (some (.ref x))) P E s := by
  show wpAny M A ((kfb_private% "checkInstance") (.builtin id) (.ref x) >>= fun _ => newFields bt [.builtin id, .ref x] >>= ret) P E s
  refine wpAny_bind (chk ho hI ?_)
  exact wpAny_bind (wpAny_newObj_type (wpAny_pure h))
theorem run_wd {id n : String} {x C : Addr} {P : Fin → Shared → Prop} (ho : (kfb_private% "ownerAndName") id = ("list", n)) (hI : Looks M s.heap (isInstance (.ref x) (.type "list")) true) (h : P (.done (.ret (.ref s.heap.objs.size))) { s with heap := s.heap.push (boundO "method-wrapper" id x) }) :
    wpAny M A (Builtin.«wrapper_descriptor.__get__» ⟨[.builtin id, .ref x, .ref C], []⟩) P E s := by
  unfold Builtin.«wrapper_descriptor.__get__»
  refine wpAny_bind (wpAny_of_eq (a := (.builtin id, some (.ref x), some (.ref C))) (by first | rfl | kernel_rfl) ?_)
  exact bindB ho hI h
theorem run_md {id n : String} {x C : Addr} {P : Fin → Shared → Prop} (ho : (kfb_private% "ownerAndName") id = ("list", n)) (ht : Manifest.toldItsClass.contains id = false) (hI : Looks M s.heap (isInstance (.ref x) (.type "list")) true) (h : P (.done (.ret (.ref s.heap.objs.size))) { s with heap := s.heap.push (boundO "builtin_function_or_method" id x) }) :
    wpAny M A (Builtin.«method_descriptor.__get__» ⟨[.builtin id, .ref x, .ref C], []⟩) P E s := by
  unfold Builtin.«method_descriptor.__get__»
  refine wpAny_bind (wpAny_of_eq (a := (.builtin id, some (.ref x), some (.ref C))) (by first | rfl | kernel_rfl) ?_)
  dsimp only
  simp only [ht, Bool.false_eq_true, if_false]
  exact bindB ho hI h
section
variable {h : Heap} {g : Array GenState} {d : Drawn} {t : Nat} {os : OsState}
theorem sup_ga {so D x C : Addr} {l₀ l : List Value} {K : Frag} {name : Str} {tk : Tok} {id tf gid bt : String} {B : Builtin} {Q : Fin → Shared → Prop}
    (hso : h.get? so = some { cls := .type "super", dict := none, data := .fields #[.ref D, .ref x, .ref C], slots := #[] }) (hno : Looks (model prog w) h (opaqueClassAbove (.ref C)) none)
    (hC : Looks (model prog w) h (mroOf (.ref C)) l₀) (hl : (l₀.dropWhile (· != .ref D)).drop 1 = l) (X : K.In h)
    (hf : alongIn K name l = some (some (.builtin id))) (hty : typeOf (.builtin id) = pure (.type tf)) (sl : Slot tf "__get__" gid) (eb : entryFor table gid = some B) (ea : argsOk gid ⟨[.builtin id, .ref x, .ref C], []⟩)
    (hxC : x ≠ C) (hn : (name == ("__class__" : Str)) = false)
    (hrun : ∀ (A' : Around) (P : Fin → Shared → Prop) (E' : Value → Shared → Prop), P (.done (.ret (.ref h.objs.size))) ⟨h.push (boundO bt id x), g, d, t, os⟩ → wpAny (model prog w) A' (B ⟨[.builtin id, .ref x, .ref C], []⟩) P E' ⟨h, g, d, t, os⟩)
    (hq : Q (.done (.ret (.ref h.objs.size))) ⟨h.push (boundO bt id x), g, d, t, os⟩) :
    wpAny (model prog w) A (Builtin.«super.__getattribute__» ⟨[.ref so, .str name tk], []⟩) Q E ⟨h, g, d, t, os⟩ := by
  have hlk := sl.lookup
  have hne : (Value.ref x == Value.ref C) = false := by simp [hxC]
  have hTf : (⟨h, g, d, t, os⟩ : Shared).TypeIs (.builtin id) tf := hty
  have hdt : ({ cls := .type "super", dict := none, data := .fields #[.ref D, .ref x, .ref C], slots := #[] } : Obj).data = .fields #[.ref D, .ref x, .ref C] := rfl
  have f0 : (#[.ref D, .ref x, .ref C] : Array Value)[0]? = some (.ref D) := rfl
  have f1 : (#[.ref D, .ref x, .ref C] : Array Value)[1]? = some (.ref x) := rfl
  have f2 : (#[.ref D, .ref x, .ref C] : Array Value)[2]? = some (.ref C) := rfl
  unfold Builtin.«super.__getattribute__»
  repeat (first
    | (with_reducible refine wpAny_field hso hdt f0 ?_) | (with_reducible refine wpAny_field hso hdt f1 ?_) | (with_reducible refine wpAny_field hso hdt f2 ?_)
    | (with_reducible refine ks_wpAny_notOpaque hno ?_)
    | (with_reducible refine Looks.at hC ?_; rw [hl])
    | (refine ks_forIn_along X (fun _ _ => rfl) rfl ?_ hf)
    | (with_reducible refine wpAny_typeOf hTf ?_)
    | (with_reducible refine wpAny_call_entry sl hTf eb ?_ ea)
    | (simp only [hn, hne, Bool.or_false, Bool.false_eq_true, if_false])
    | wp_step
    | dsimp only)
  all_goals (refine hrun _ _ _ ⟨_, rfl, ?_⟩)
  all_goals exact wpAny_bind (wpAny_pure (wpAny_pure (wpAny_pure hq)))
theorem sup_meth {so D x C : Addr} {l₀ l : List Value} {K : Frag} {name : Str} {id tf gid bt : String} {B : Builtin} {pl : Sem Bool} {Q : Value × List Value → Shared → Prop}
    (hso : h.get? so = some { cls := .type "super", dict := none, data := .fields #[.ref D, .ref x, .ref C], slots := #[] }) (hno : Looks (model prog w) h (opaqueClassAbove (.ref C)) none)
    (hC : Looks (model prog w) h (mroOf (.ref C)) l₀) (hl : (l₀.dropWhile (· != .ref D)).drop 1 = l) (X : K.In h)
    (hf : alongIn K name l = some (some (.builtin id))) (hty : typeOf (.builtin id) = pure (.type tf)) (sl : Slot tf "__get__" gid) (eb : entryFor table gid = some B) (ea : argsOk gid ⟨[.builtin id, .ref x, .ref C], []⟩)
    (hxC : x ≠ C) (hn : (name == ("__class__" : Str)) = false)
    (hrun : ∀ (A' : Around) (P : Fin → Shared → Prop) (E' : Value → Shared → Prop), P (.done (.ret (.ref h.objs.size))) ⟨h.push (boundO bt id x), g, d, t + 1, os⟩ → wpAny (model prog w) A' (B ⟨[.builtin id, .ref x, .ref C], []⟩) P E' ⟨h, g, d, t + 1, os⟩)
    (hq : Q (.ref h.objs.size, []) ⟨h.push (boundO bt id x), g, d, t + 1, os⟩) :
    wpAny (model prog w) A (getMethod (.ref so) name pl) Q E ⟨h, g, d, t, os⟩ := by
  have hlk := F.ks_slot_super_ga.lookup
  have hcan := F.ks_canon_super_ga
  have hT : ∀ t', (⟨h, g, d, t', os⟩ : Shared).TypeIs (.ref so) "super" := fun _ => ⟨_, hso, rfl⟩
  unfold getMethod
  refine wpAny_bind (wpAny_specialOf (hT _) hlk ?_)
  show wpAny _ _ (if (Manifest.canonical "super.__getattribute__" != "object.__getattribute__") = true then _ else _) _ _ _
  rw [if_pos hcan]
  unfold getAttr getAttrBy
  refine wpAny_bind (wpAny_bind (wpAny_mkText (wpAny_holding (wpAny_bind (wpAny_typeOf (hT _) (wpAny_bind (wpAny_of_eq hlk ?_)))))))
  show wpAny _ _ (getAttrByItsOwn (.ref so) (.str name t) (.type "super") (.builtin "super.__getattribute__") true false) _ _ _
  unfold getAttrByItsOwn hookBefore callGetattribute boundAndCalled
  refine wpAny_bind (wpAny_of_eq (show (if onTheHeap (.type "super") then typeLookup (.type "super") "__getattr__" else pure none) = pure none from rfl) ?_)
  refine wpAny_bind (wpAny_attempt (wpAny_holding ?_))
  show wpAny _ _ (bindSpecial (.builtin "super.__getattribute__") (.ref so) >>= _) _ _ _
  refine wpAny_bind (wpAny_of_eq (F.ks_slot_super_ga.bind _) ?_)
  refine wpAny_mono (Q := fun v s' => v = .ref h.objs.size ∧ s' = ⟨h.push (boundO bt id x), g, d, t + 1, os⟩) (E := fun _ _ => False)
    (wpAny_call_entry F.ks_slot_super_ga (hT _) F.ks_entry_super_ga (sup_ga hso hno hC hl X hf hty sl eb ea hxC hn hrun ⟨_, rfl, rfl, rfl⟩) (F.ks_gaArgs_super _ _)) (fun v s' hv => ?_) fun _ _ z => z.elim
  obtain ⟨rfl, rfl⟩ := hv
  exact wpAny_pure (wpAny_pure hq)
end
theorem callB0 {pos : Pos} {env : Env} {u x : Addr} {bt id : String} {B : Builtin} {Q : Value → Shared → Prop} (hu : s.heap.get? u = some (boundO bt id x)) (hbt : bt = "method-wrapper" ∨ bt = "builtin_function_or_method")
    (hc : ∀ (A' : Around) (P : Unit → Shared → Prop) (E' : Value → Shared → Prop), P () s → wpAny (model prog w) A' (checkBoundCall id ⟨[.ref x], []⟩) P E' s) (hqt : (Code.builtin id ⟨[.ref x], []⟩).quiet = true) (eb : entryFor table id = some B)
    (h : wpAny (model prog w) (A.under (.builtin id ⟨[.ref x], []⟩)) (B ⟨[.ref x], []⟩) (fun fin s' => ∃ r, fin = .done (.ret r) ∧ Q r s') E s) :
    wpAny (model prog w) A (callWith pos (.ref u) [] (backTo pos (starEach [] env)) []) Q E s := by
  have ec : ((Value.type bt != Value.type "method") = true) ∧ ((Value.type bt == Value.type "builtin_function_or_method" || Value.type bt == Value.type "method-wrapper") = true) ∧ ((Value.type bt == Value.type "method" || Value.type bt == Value.type "builtin_function_or_method" || Value.type bt == Value.type "method-wrapper") = true) := by
    rcases hbt with rfl | rfl <;> decide
  have hcall : wpAny (model prog w) A (call (.ref u) []) Q E s := by
    refine wpAny_call (codeAny_of_tree ?_)
    show wpAny _ A.in1 (callAny (.ref u) ⟨[], []⟩) _ _ s
    simp only [callAny]
    refine wpAny_bind (wpAny_load hu ?_)
    simp only [ec.2.2, if_true]
    refine KFB.if_so ec.1 ?_
    refine wpAny_bind (hc _ _ _ ?_)
    refine wpAny_bind (wpAny_pure (wpAny_pure ?_))
    exact ⟨hqt, codeAny_builtin eb (wpAny_mono h (fun fin s' z => by obtain ⟨r, rfl, q⟩ := z; exact q) fun _ _ z => z)⟩
  unfold callWith
  refine wpAny_bind (wpAny_holding (PySem.evalArgs_none (wpAny_bind (wpAny_standAt ?_))))
  show wpAny _ _ (keeperOf (.ref u) >>= _) _ _ _
  refine wpAny_bind ?_
  unfold keeperOf
  refine wpAny_bind (wpAny_load hu ?_)
  simp only [ec.1, ec.2.1, if_true]
  refine wpAny_pure ?_
  exact wpAny_bind (wpAny_mono hcall (fun r s₂ hr => wpAny_bind (wpAny_holding (wpAny_point (wpAny_pure hr)))) fun _ _ x => x)
end
/- Fw14 -/
set_option autoImplicit false
section
variable {c : Cx} {L : Addr} {m : Loc} {mu led : List (Addr × Obj)} {s : Shared} {A : Around} {E : Value → Shared → Prop} {env : Env} {Q : Value → Shared → Prop} {d : Nat}
theorem r_defAt {f : Addr} {args : List Value} {fd : FuncData} {body : List Stmt} {binds : List (Str × Value)} (S : At c L m mu led s) (hA : AOk A d) (hd : d ≤ 480)
    (ho : c.K.lookup f = some { cls := .type "function", data := .func fd }) (hcode : codeIn c.K fd.code fd.qualname = true) (hbody : fd.body = .stmts body) (hbind : BindsTo s fd ⟨args, []⟩ binds)
    (hcell : (fd.scope.names.all fun x => !(x.2 == NameKind.cell)) = true) (hloc : (binds.all fun x => decide (fd.scope.names.lookup x.1 = some .local)) = true)
    (l : Loc) (hnd : nodupB (l.map (·.1)) = true) (hl : LocOk (fun x => binds.reverse.lookup x) l)
    (hco : fd.scope.isCoroutine = false) (hgen : fd.scope.isGenerator = false) (hk : fd.scope.kind = .function)
    (h : ∀ L' oL s', At c L' l mu ((L, oL) :: led) s' → Backs c L m oL → AOk (A.deeper (fenv fd L' f fd.closure)) (d + 1) →
      _root_.PySem.wpAt c.M (A.deeper (fenv fd L' f fd.closure)) (.func body (fenv fd L' f fd.closure)) (execs body (fenv fd L' f fd.closure)) (fun fl s' => Q (retOf fl) s') (fun _ _ => False) s') :
    wpAny c.M A (call (.ref f) args) Q E s := by
  refine wpAny_call (ks_codeAny_call_defAt (hA.room hd) (S.top ho) rfl S.lim (codeRec_of S.inK hcode) hbody hbind (fun x hx e => ?_) (locs hloc) (fun h₀ hns hk₀ => ?_) hco hgen hk)
  · have := List.all_eq_true.mp hcell x hx
    rw [e] at this; cases this
  · obtain ⟨oL, hb, hdict, S'⟩ := S.enter (s' := ⟨h₀, s.gens, s.drawn, s.toks + binds.length, s.os⟩) (Nat.le_refl _) ⟨nodup_of hnd, _, hns, hl.all⟩ hk₀ rfl rfl
    exact ks_wpAt_mono (h _ oL _ S' ⟨hdict, fun T hm hs => T.back hm hb hs⟩ (hA.deeper _)) (fun fl s' q => q) (fun _ _ q => q.elim)
theorem r_biN {x : Str} {v : Value} (S : At c L m mu led s) (hg : nsIn c.K mainGlobals x = some none) (hb : bootBuiltins x = some v) (hn : x ≠ "__name__") (h : Q v s)
    (hk : env.scope.kind = .function) (hl : env.kindOf x = some .globalImplicit) (hgl : env.globals = mainGlobals) (hbi : env.builtins = builtinsNs) : wpAny c.M A (loadName env x) Q E s := by
  unfold loadName
  simp only [Env.blockKind, hk, hl, ScopeKind.isAnnotationScope, Bool.false_and, Bool.false_eq_true, if_false]
  unfold loadGlobal
  rw [hgl, hbi]
  refine wpAny_bind ((looks_nsIn S.inK hg).here ?_)
  dsimp only
  refine wpAny_bind (wpAny_nsGet S.bns ?_)
  rw [S.ok.bb x hn, hb]
  exact wpAny_pure h
theorem r_super {body : List Stmt} {p0 p1 : Pos} {attr : Str} {whole : Sem Value} {f cc cl x C D : Addr} {dA : Addr} {vs' : List Value} {n : Nat} {fd : FuncData} {ar : Arg} {vs : Array Value} {file : Str} {tf : Tok} {oc : Obj} {cdD : ClassData}
    (S : At c env.locals m mu led s) (hx : (x, accO C dA vs' n) ∈ mu) (hv : (ar.arg, some (.ref x)) ∈ m)
    (hfu : env.func = some f) (hf : c.K.lookup f = some { cls := .type "function", data := .func fd }) (hp : (fd.params.posonlyargs ++ fd.params.args).head? = some ar)
    (hco : env.code = .ref cc) (hcc : c.K.lookup cc = some oc) (hoc : oc.data = .fields vs) (hvs : vs[2]? = some (.str file tf)) (hfile : ((c.prog.main.file : Str) == file) = true)
    (hcl : env.cells.lookup ("__class__" : Str) = some cl) (hcell : c.K.lookup cl = some (cellO (some (.ref D)))) (hD : clsIn c.K D = some cdD) (hsub : mroIn c.K C (.ref D) = some true) (hsuper : nsIn c.K mainGlobals "super" = some none)
    (hat : (attr == ("__class__" : Str)) = false) (hks : env.kindOf "super" = some .globalImplicit) (hkc : env.kindOf "__class__" = some .free) (hka : env.kindOf ar.arg = some .local) (hk : env.scope.kind = .function)
    (hgl : env.globals = mainGlobals) (hbi : env.builtins = builtinsNs)
    (htop : (c.prog.main.scope.names.lookup ("super" : Str)).isSome = false) (hboot : bootBuiltins "super" = some (.type "super"))
    (h : ∀ so s', At c env.locals m mu ((so, ks_superObj D x C) :: led) s' → Q (.ref so) s') :
    _root_.PySem.wpAt c.M A (.func body env) (attributeBase (.Call (.Name "super" p0) [] [] p1) attr env whole) Q E s := by
  have X := S.inK
  obtain ⟨hh, g, d, t, os⟩ := s
  obtain ⟨oD, hD1, hD2⟩ : ∃ oD, hh.get? D = some oD ∧ oD.data = .cls cdD := by
    unfold clsIn at hD
    split at hD
    · rename_i c d cd' sl ho
      cases hD
      exact ⟨_, X _ _ ho, rfl⟩
    · cases hD
  refine ks_wpAt_super_base hks hkc hat hfu (X _ _ hf) rfl hp hco (X _ _ hcc) hoc hvs hfile htop ?_
  refine r_biN S hsuper hboot (by decide +kernel) ⟨rfl, ?_⟩ hk hks hgl hbi
  refine wpAny_loadName_free hk hkc hcl ⟨_, X _ _ hcell, rfl⟩ ?_
  refine r_localN S hv ?_ hk hka
  refine ks_wpAny_isType_cls hD1 hD2 ⟨rfl, ?_⟩
  refine ks_wpAny_call_super hD1 hD2 (S.muGet hx) rfl (fun c e => nomatch e) (looks_mroIn X hsub) (fun h' e k => ?_)
  have S' : At c env.locals m mu led ⟨h', g, d, t, os⟩ := S.ext k S.gens rfl
  exact h _ _ (S'.ledPush e (Nat.ne_of_gt S.ns.lt) (fun q => Nat.lt_irrefl _ (S.muLt q)) S.sizeLe)
theorem r_superCall {so x C D dA : Addr} {vs : List Value} {n : Nat} {name : Str} {cd : ClassData} {pos : Pos} {id tf gid bt : String} {B B2 : Builtin} {pl : Sem Bool} (S : At c L m mu led s) (hso : (so, ks_superObj D x C) ∈ led) (hx : (x, accO C dA vs n) ∈ mu)
    (hno : nsIn c.K cStatics "thirdparty.any" = some none) (hcd : clsIn c.K C = some cd) (hm : ks_superIn c.K C D name = some (some (.builtin id))) (hxC : x ≠ C)
    (hty : typeOf (.builtin id) = pure (.type tf)) (sl : Slot tf "__get__" gid) (eb : entryFor table gid = some B) (ea : argsOk gid ⟨[.builtin id, .ref x, .ref C], []⟩) (hn : (name == ("__class__" : Str)) = false)
    (hI : mroIn c.K C (.type "list") = some true)
    (hrun : ∀ (s : Shared) (A' : Around) (P : Fin → Shared → Prop) (E' : Value → Shared → Prop), Looks c.M s.heap (isInstance (.ref x) (.type "list")) true → P (.done (.ret (.ref s.heap.objs.size))) { s with heap := s.heap.push (boundO bt id x) } → wpAny c.M A' (B ⟨[.builtin id, .ref x, .ref C], []⟩) P E' s)
    (hbt : bt = "method-wrapper" ∨ bt = "builtin_function_or_method")
    (hc : ∀ s', At c L m mu led s' → ∀ (A' : Around) (P : Unit → Shared → Prop) (E' : Value → Shared → Prop), P () s' → wpAny c.M A' (checkBoundCall id ⟨[.ref x], []⟩) P E' s') (hqt : (Code.builtin id ⟨[.ref x], []⟩).quiet = true) (eb2 : entryFor table id = some B2)
    (h : ∀ s', At c L m mu led s' → wpAny c.M (A.under (.builtin id ⟨[.ref x], []⟩)) (B2 ⟨[.ref x], []⟩) (fun fin s'' => ∃ r, fin = .done (.ret r) ∧ Q r s'') E s') :
    wpAny c.M A (getMethod (.ref so) name pl) (fun fx s₂ => wpAny c.M A (callWith pos fx.1 fx.2 (backTo pos (starEach [] env)) []) Q E s₂) E s := by
  have X := S.inK
  have hI' := looks_isI S (looks_ref (S.muGet hx) rfl) hI
  unfold ks_superIn at hm
  rw [hcd] at hm
  have hmro : Looks c.M s.heap (mroOf (.ref C)) cd.mro := fun A Q E s k q => wpAny_bind ((looks_clsIn X hcd) A _ E s k (wpAny_pure q))
  have S1 : At c L m mu led { s with toks := s.toks + 1 } := S.toks _
  have S2 := S1.push (o := boundO bt id x) rfl
  obtain ⟨hh, g, d, t, os⟩ := s
  refine sup_meth (S.ledGet hso) (looks_opaque X hno) hmro rfl X hm hty sl eb ea hxC hn (fun A' P E' q => hrun _ A' P E' hI' q) ?_
  have S3 := S2.ledSub (led' := led) fun p hp => .tail _ hp
  exact callB0 (S2.ledGet (.head _)) hbt (hc _ S3) hqt eb2 (h _ S3)
theorem ty_llen : typeOf (.builtin "list.__len__") = pure (.type "wrapper_descriptor") := by show builtinType _ = _; rw [builtinType_eq_fast]; kernel_rfl
theorem ty_linit : typeOf (.builtin "list.__init__") = pure (.type "wrapper_descriptor") := by show builtinType _ = _; rw [builtinType_eq_fast]; kernel_rfl
theorem ty_lpop : typeOf (.builtin "list.pop") = pure (.type "method_descriptor") := by show builtinType _ = _; rw [builtinType_eq_fast]; kernel_rfl
theorem en_llen : entryFor table "list.__len__" = some Builtin.«list.__len__» := entryFor_of_tree (by kernel_rfl)
theorem en_linit : entryFor table "list.__init__" = some Builtin.«list.__init__» := entryFor_of_tree (by kernel_rfl)
theorem en_lpop : entryFor table "list.pop" = some Builtin.«list.pop» := entryFor_of_tree (by kernel_rfl)
theorem ck_llen (x : Value) : checkBoundCall "list.__len__" ⟨[x], []⟩ = pure () := by kernel_rfl
theorem ck_linit (x : Value) : checkBoundCall "list.__init__" ⟨[x], []⟩ = pure () := by kernel_rfl
theorem told_lpop : Manifest.toldItsClass.contains "list.pop" = false := by decide +kernel
theorem b_len {a : Addr} {o : Obj} {vs : List Value} {n : Nat} {P : Fin → Shared → Prop} (ho : s.heap.get? a = some o) (hd : o.data = .seq vs.toArray n) (h : P (.done (.ret (.int vs.length s.toks))) { s with toks := s.toks + 1 }) : wpAny c.M A (Builtin.«list.__len__» ⟨[.ref a], []⟩) P E s := by
  show wpAny c.M A (seqSize a >>= fun k => retInt k) P E s
  unfold seqSize
  refine wpAny_bind (wpAny_bind (wpAny_loadPart ho ?_))
  rw [hd]
  refine wpAny_pure ?_
  rw [List.size_toArray]
  exact wpAny_bind (wpAny_mkInt (wpAny_pure h))
theorem items_of {a : Addr} {o : Obj} {vs : List Value} {n : Nat} {P : Array Value → Shared → Prop} (ho : s.heap.get? a = some o) (hd : o.data = .seq vs.toArray n) (h : P vs.toArray s) : wpAny c.M A (Builtin.List.listItems (.ref a)) P E s := by
  unfold Builtin.List.listItems seqItems?
  refine wpAny_bind (wpAny_bind (wpAny_load ho ?_))
  rw [hd]
  exact wpAny_pure (wpAny_pure h)
theorem b_pop {a C dA : Addr} {vs : List Value} {v : Value} {n : Nat} {mu' : List (Addr × Obj)} {P : Fin → Shared → Prop} (S : At c L m mu led s) (hm : SetM a (accO C dA (vs ++ [v]) n) (accO C dA vs (n + 1)) mu mu') (hsz : vs.length ≤ 1000000) (h : ∀ s', At c L m mu' led s' → P (.done (.ret v)) s') : wpAny c.M A (Builtin.«list.pop» ⟨[.ref a], []⟩) P E s := by
  have hg := S.muGet hm.mem
  show wpAny c.M A (Builtin.List.listItems (.ref a) >>= _) P E s
  refine wpAny_bind (items_of hg rfl ?_)
  have e1 : (vs ++ [v]).toArray.isEmpty = false := by simp
  have e2 : ((seqIndex? (-1) (vs ++ [v]).toArray.size).bind fun k => (vs ++ [v]).toArray[k]?.map (k, ·)) = some (vs.length, v) := by
    have : seqIndex? (-1) (vs ++ [v]).toArray.size = some vs.length := by
      unfold seqIndex?
      simp
      omega
    rw [this]
    simp
  simp only [e1, Bool.false_eq_true, if_false]
  rw [e2]
  show wpAny c.M A (updateSeq a _ >>= fun _ => ret v) P E s
  have e3 : (vs ++ [v]).eraseIdx vs.length = vs := by simp [List.eraseIdx_append_of_length_le]
  refine wpAny_bind (wpAny_updateSeq hg rfl (wpAny_pure (h _ (S.upd hm ?_ rfl))) (hz := le_sz (by simp; omega)) (_hz' := ?_))
  · simp [Obj.mapSeq, e3]
  · simp [e3]
    exact Nat.le_succ_of_le (le_sz (by omega))
theorem b_init {a C dA : Addr} {n : Nat} {mu' : Nat → List (Addr × Obj)} {P : Fin → Shared → Prop} (S : At c L m mu led s) (hm : ∀ n', SetM a (accO C dA [] n) (accO C dA [] n') mu (mu' n')) (h : ∀ n' s', At c L m (mu' n') led s' → P (.done (.ret .none)) s') : wpAny c.M A (Builtin.«list.__init__» ⟨[.ref a], []⟩) P E s := by
  have hg := S.muGet (hm 0).mem
  show wpAny c.M A (Builtin.List.listItems (.ref a) >>= _) P E s
  refine wpAny_bind (items_of hg rfl ?_)
  show wpAny c.M A (updateSeq a _ >>= fun _ => letGo [] >>= fun _ => ret .none) P E s
  refine wpAny_bind (wpAny_updateSeq hg rfl ?_)
  refine wpAny_bind (m := letGo []) (wpAny_of_eq (a := ()) rfl (wpAny_pure (h n _ (S.upd (hm _) ?_ rfl))))
  simp [Obj.mapSeq]
def sgPop : Manifest.Signature := ⟨.positional, "list.pop", "pop", .self, [⟨"index", .posOnly, false⟩]⟩
theorem sg_lpop : Manifest.signature? "list.pop" = some sgPop := by kernel_rfl
theorem kd_lpop : builtinKind "list.pop" = some .method := by kernel_rfl
theorem va_lpop : Manifest.varargsMethods.contains "list.pop" = false := by decide +kernel
theorem ck_lpop {x C dA : Addr} {vs : List Value} {n : Nat} {cd : ClassData} {P : Unit → Shared → Prop} (X : c.K.In s.heap) (hx : s.heap.get? x = some (accO C dA vs n)) (hmod : mroIn c.K C (.type "module") = some false) (hcd : clsIn c.K C = some cd) (hmeta : typeIn c.K (.ref C) = some (.type "type"))
    (hck : Bind.checkArgs "list.pop" { sgPop with full := s!"{cd.qualname.toString}.{Bind.lastOf "list.pop"}" } ⟨[.ref x], []⟩ = pure ()) (h : P () s) : wpAny c.M A (checkBoundCall "list.pop" ⟨[.ref x], []⟩) P E s := by
  have hT : Looks c.M s.heap (typeOf (.ref x)) (.ref C) := looks_ref hx rfl
  have hM : Looks c.M s.heap (isInstance (.ref x) (.type "module")) false := hT.andThen (looks_mroIn X hmod)
  unfold checkBoundCall
  rw [sg_lpop]
  dsimp only
  rw [kd_lpop]
  dsimp only
  refine KFB.if_not (by decide) ?_
  refine wpAny_bind (hM.here ?_)
  rw [va_lpop]
  refine KFB.if_not rfl ?_
  obtain ⟨hh, g, d, t, os⟩ := s
  refine wpAny_bind (ks_wpAny_isType_inst hx (fun c e => nomatch e) ?_)
  refine KFB.if_not rfl ?_
  refine wpAny_bind (hT.at ?_)
  dsimp only
  refine wpAny_bind ((looks_clsIn X hcd).at ?_)
  refine wpAny_bind ((looks_typeIn X hmeta).at ?_)
  refine KFB.if_so (by decide) ?_
  exact wpAny_of_eq hck h
end
/- Fw15 -/
set_option autoImplicit false
section
variable {c : Cx} {L : Addr} {m : Loc} {mu led : List (Addr × Obj)} {s : Shared} {A : Around} {E : Value → Shared → Prop} {env : Env} {Q : Value → Shared → Prop} {d : Nat}
theorem r_tail {value slice : Expr} {o i t : Value} {id : String} {ops : List Value} (X : c.K.In s.heap) (hT : Looks c.M s.heap (typeOf o) t) (hf : findIn c.K t "__getitem__" = some (some (.builtin id)))
    (hs : subscripted slice false o i = operate ops (getItem o i)) (h : wpAny c.M A (getItem o i) Q E s) : wpAny c.M A (subscriptTail value slice o i) Q E s := by
  unfold subscriptTail getitemInPython specialOf
  refine wpAny_bind (wpAny_bind (wpAny_bind (hT.here ((looks_findIn X hf).here ?_))))
  refine wpAny_pure ?_
  rw [hs]
  exact wpAny_bind (wpAny_operating (wpAny_mono h (fun r s₃ h₃ => wpAny_bind (wpAny_letTemporaryGo (wpAny_pure h₃))) fun _ _ x => x))
theorem LL.tail {value slice : Expr} {a : Addr} {i : Value} {ops : List Value} (X : c.K.In s.heap) (H : LL c s a) (hs : subscripted slice false (.ref a) i = operate ops (getItem (.ref a) i)) (h : wpAny c.M A (getItem (.ref a) i) Q E s) : wpAny c.M A (subscriptTail value slice (.ref a) i) Q E s := by
  obtain ⟨t, hT, hf, _⟩ := H.ty
  exact r_tail X hT hf hs h
end
/- Fw16 -/
set_option autoImplicit false
section
variable {c : Cx} {L : Addr} {m : Loc} {mu led : List (Addr × Obj)} {s : Shared} {A : Around} {E : Value → Shared → Prop} {env : Env} {Q : Value → Shared → Prop} {d : Nat}
theorem instA {x C dA : Addr} {vs : List Value} {n : Nat} {od : Obj} (hx : s.heap.get? x = some (accO C dA vs n)) (hd : s.heap.get? dA = some od) : InstAt s.heap x (accO C dA vs n) C (some od) := ⟨hx, rfl, rfl, hd⟩
theorem len_body {x C f : Addr} {ox : Obj} {od : Option Obj} (X : c.K.In s.heap) (I : InstAt s.heap x ox C od) (hs : findIn c.K (.ref C) "__len__" = some (some (.ref f))) (hf : isFn c.K (.ref f) = true)
    (h : wpAny c.M A (call (.ref f) [.ref x]) (fun r s' => ∃ n u, r = .int n u ∧ 0 ≤ n ∧ n < 2 ^ 63 ∧ Q (.int n s'.toks) { s' with toks := s'.toks + 1 }) E s) : wpAny c.M A (Builtin.«len» ⟨[.ref x], []⟩) (fun fin s' => ∃ r, fin = .done (.ret r) ∧ Q r s') E s := by
  unfold Builtin.«len»
  refine wpAny_bind (m := oneArg "len" _) (wpAny_pure ?_)
  refine wpAny_bind (m := callSpecial? (.ref x) (Str.ofString "__len__")) (special_fn X I hs (beq_iff_eq.mp hf) (wpAny_mono h (fun r s' hr => ?_) fun _ _ y => y))
  obtain ⟨n, u, rfl, h0, h1, hq⟩ := hr
  refine wpAny_bind (wpAny_holding (wpAny_pure ?_))
  refine wpAny_bind (wpAny_letGo ?_)
  show wpAny _ _ (if n < 0 then _ else _) _ _ _
  rw [if_neg (by omega)]
  show wpAny _ _ (if n ≥ 2 ^ 63 then _ else _) _ _ _
  rw [if_neg (by omega)]
  exact wpAny_bind (wpAny_mkInt (wpAny_pure ⟨_, rfl, hq⟩))
/-- len of a thing whose class has its own -/
theorem r_lenOwn {x C f : Addr} {ox : Obj} {od : Option Obj} (X : c.K.In s.heap) (I : InstAt s.heap x ox C od) (hs : findIn c.K (.ref C) "__len__" = some (some (.ref f))) (hf : isFn c.K (.ref f) = true)
    (h : wpAny c.M A.in1 (call (.ref f) [.ref x]) (fun r s' => ∃ n u, r = .int n u ∧ 0 ≤ n ∧ n < 2 ^ 63 ∧ Q (.int n s'.toks) { s' with toks := s'.toks + 1 }) E s) : wpAny c.M A (call (.builtin "len") [.ref x]) Q E s :=
  Calls.call_function_entry kind_len plain_len entry_len (args_len1 _) (len_body X I hs hf h)
theorem r_truthOwn {x C f : Addr} {ox : Obj} {od : Option Obj} {Q : Bool → Shared → Prop} (X : c.K.In s.heap) (I : InstAt s.heap x ox C od) (hb : findIn c.K (.ref C) "__bool__" = some none) (hs : findIn c.K (.ref C) "__len__" = some (some (.ref f))) (hf : isFn c.K (.ref f) = true)
    (h : wpAny c.M A.in1 (call (.ref f) [.ref x]) (fun r s' => ∃ n u, r = .int n u ∧ 0 ≤ n ∧ n < 2 ^ 63 ∧ Q (n != 0) { s' with toks := s'.toks + 1 }) E s) : wpAny c.M A (truthy (.ref x)) Q E s := by
  have key : wpAny c.M A (runValue (.builtin "len" ⟨[.ref x], []⟩)) (fun r s' => ∃ n u, r = .int n u ∧ Q (n != 0) s') E s := by
    refine wpAny_runValue (codeAny_builtin entry_len ?_)
    rw [Around.under_plainId plain_len _]
    refine wpAny_mono (len_body (Q := fun r s' => ∃ n u, r = .int n u ∧ Q (n != 0) s') X I hs hf (wpAny_mono h (fun r s' hr => ?_) fun _ _ e => e)) (fun fin s' h' => by obtain ⟨r, rfl, hq⟩ := h'; exact hq) fun _ _ e => e
    obtain ⟨n, u, rfl, h0, h1, hq⟩ := hr
    exact ⟨n, u, rfl, h0, h1, n, _, rfl, hq⟩
  unfold truthy
  refine wpAny_bind (m := callSpecial? (.ref x) (Str.ofString "__bool__")) ?_
  unfold callSpecial? specialOf
  refine wpAny_bind (wpAny_bind (I.type.here ((looks_findIn X hb).here ?_)))
  refine wpAny_pure ?_
  refine wpAny_bind (wpAny_bind (I.type.here ((looks_findIn X hs).here ?_)))
  rw [if_neg (by simp)]
  refine wpAny_bind (wpAny_mono key (fun r s' hr => ?_) fun _ _ e => e)
  obtain ⟨n, u, rfl, hq⟩ := hr
  exact wpAny_pure hq
end
/- Fw17 -/
set_option autoImplicit false
section
variable {c : Cx} {L : Addr} {m : Loc} {mu led : List (Addr × Obj)} {s : Shared} {A : Around} {E : Value → Shared → Prop} {env : Env} {Q : Value → Shared → Prop} {d : Nat}
theorem r_star {a : Addr} {vs : List Value} {Q : List Value → Shared → Prop} (S : At c L m mu led s) (ha : (a, tupO vs) ∈ led) (hz : vs.length ≤ 1000) (h : ∀ s', At c L m mu led s' → Q vs s') : StarOf c.M A E (.ref a) Q s := by
  have hT' : s.TypeIs (.ref a) "tuple" := ⟨_, S.ledGet ha, rfl⟩
  unfold StarOf notIterableAtAll
  refine wpAny_bind (wpAny_specialOf hT' PySem.F.slot_tuple_iter.lookup (wpAny_pure ⟨rfl, ?_⟩))
  exact wpAny_collect_seq a (.inr rfl) (S.ledGet ha) rfl rfl (fun h' hk => h _ (S.ext hk S.gens rfl)) (le_sz (by simp; omega))
theorem shaped_pair {x y : Str} (hx : PyData.strOk x = true) (hy : PyData.strOk y = true) : SeqAt.shaped (.tuple [.str x, .str y]) = true := by
  simp [SeqAt.shaped, PyData.canLay0, PyData.canLayAll0, PyData.depth, PyData.depthAll, hx, hy]
theorem r_nePair {a b : Addr} {x y x' y' : Str} {t1 t2 t3 t4 : Tok} (S : At c L m mu led s) (ha : (a, tupO [.str x t1, .str y t2]) ∈ led) (hb : (b, tupO [.str x' t3, .str y' t4]) ∈ led) (hx : PyData.strOk x = true) (hy : PyData.strOk y = true) (hx' : PyData.strOk x' = true) (hy' : PyData.strOk y' = true) (hA : AOk A d) (hd : d ≤ 480)
    (h : Q (.bool (!(x == x' && y == y'))) s) : wpAny c.M A (compareOp .NotEq (.ref a) (.ref b)) Q E s := by
  refine ne_dataH (.tuple (S.ledGet ha) rfl rfl (.cons (.str _ _) (.cons (.str _ _) .nil))) (.tuple (S.ledGet hb) rfl rfl (.cons (.str _ _) (.cons (.str _ _) .nil))) (shaped_pair hx hy) (shaped_pair hx' hy') (by have := hA.units; show _ < 9900; omega) ?_
  have e : PyData.eqv (.tuple [.str x, .str y]) (.tuple [.str x', .str y']) = (x == x' && y == y') := by
    simp [PyData.eqv, PyData.eqvAll]
  rw [e]
  exact h
theorem r_appendL {b : Addr} {vs : List Value} {n : Nat} {v : Value} {mu' : List (Addr × Obj)} (S : At c L m mu led s) (hm : SetM b (W.listOf vs.toArray n) (W.listOf (vs ++ [v]).toArray (n + 1)) mu mu')
    (hsz : vs.length ≤ 1000000) (h : ∀ s', At c L m mu' led s' → Q .none s') : wpAny c.M A (call (.builtin "list.append") [.ref b, v]) Q E s := by
  have hg := S.muGet hm.mem
  have hI : Looks c.M s.heap (isInstance (.ref b) (.type "list")) true := (looks_ref hg rfl).andThen (Looks.of_pure (by rw [isSubtype_type]; kernel_rfl))
  refine r_callB (owner := "list") (n := "append") (by decide +kernel) (.inr (by decide +kernel)) (by decide +kernel) hI entry_list_append (args_list_append _ _) ?_
  show wpAny _ _ (updateSeq b (·.push v) >>= fun _ => ret .none) _ _ s
  refine wpAny_bind (wpAny_updateSeq hg rfl (wpAny_pure ⟨.none, rfl, h _ (S.upd hm ?_ rfl)⟩))
  simp [Obj.mapSeq]
theorem r_methL {b : Addr} {o : Obj} {id : String} {name : Str} {pl : Sem Bool} {Q : Value × List Value → Shared → Prop} (S : At c L m mu led s) (ho : s.heap.get? b = some o) (hc : o.cls = .type "list") (hdn : o.dict = none)
    (hf : findIn c.K (.type "list") name = some (some (.builtin id))) (ht : typeIn c.K (.builtin id) = some (.type "method_descriptor")) (h : Q (.builtin id, [.ref b]) s) : wpAny c.M A (getMethod (.ref b) name pl) Q E s :=
  r_meth S (t := .type "list") (f := .builtin id) (tf := "method_descriptor") (ga := "list.__getattribute__") (looks_ref ho hc) (by kernel_rfl) (by kernel_rfl) (by kernel_rfl) hf ht (by decide) ⟨_, ho, .inl hdn⟩ h
/-- a formatter -/
structure Fmt where
  F : Addr
  dF : Addr
  ln : Addr
  acc : Addr
  dA : Addr
  ks : Nat → Tok
  vt : Nat → Tok
  maxlen : Int
  ws : Str
  wl : Int
  sc : Str
def Fmt.obj (C : Addr) (f : Fmt) : Obj := { cls := .ref C, dict := some f.dF, data := .plain }
def Fmt.dict (w : World) (f : Fmt) : Obj := dictOf [⟨PyData.keyHash w.params "_maxlen", .str "_maxlen" (f.ks 0), .int f.maxlen (f.vt 0)⟩, ⟨PyData.keyHash w.params "_continuation_ws", .str "_continuation_ws" (f.ks 1), .str f.ws (f.vt 1)⟩,
  ⟨PyData.keyHash w.params "_continuation_ws_len", .str "_continuation_ws_len" (f.ks 2), .int f.wl (f.vt 2)⟩, ⟨PyData.keyHash w.params "_splitchars", .str "_splitchars" (f.ks 3), .str f.sc (f.vt 3)⟩,
  ⟨PyData.keyHash w.params "_lines", .str "_lines" (f.ks 4), .ref f.ln⟩, ⟨PyData.keyHash w.params "_current_line", .str "_current_line" (f.ks 5), .ref f.acc⟩] 6
theorem strValues_snoc (ls : List (Str × Tok)) (x : Str) (t : Tok) : strValues (ls ++ [(x, t)]) = strValues ls ++ [.str x t] := by simp [strValues]
theorem refsOf_snoc (ps : List Part) (q : Part) : refsOf (ps ++ [q]) = refsOf ps ++ [.ref q.a] := by simp [refsOf]
end
/- Fw18 -/
set_option autoImplicit false
section
variable {c : Cx} {L : Addr} {m : Loc} {mu led : List (Addr × Obj)} {s : Shared} {A : Around} {E : Value → Shared → Prop} {env : Env} {Q : Value → Shared → Prop} {d : Nat}
theorem r_attrM {x dx C f : Addr} {dat : Data} {od of : Obj} {name : Str} {expr : Bool} (S : At c L m mu led s) (hx : s.heap.get? x = some { cls := .ref C, dict := some dx, data := dat }) (hn : notCls { cls := .ref C, dict := some dx, data := dat } = true) (hd : s.heap.get? dx = some od)
    (hga : findIn c.K (.ref C) "__getattribute__" = some (some (.builtin "list.__getattribute__"))) (hng : findIn c.K (.ref C) "__getattr__" = some none) (hC : mroIn c.K C (.type "list") = some true)
    (hf : findObj c.K C (some od) name = some (.bind (.builtin "function.__get__") (.ref f))) (hfo : c.K.lookup f = some of) (hfc : of.cls = .type "function")
    (h : ∀ q s', At c L m mu ((q, methodObj (.ref f) (.ref x)) :: led) s' → Q (.ref q) s') : wpAny c.M A (getAttr (.ref x) name expr) Q E s := by
  have I : InstAt s.heap x { cls := .ref C, dict := some dx, data := dat } C (some od) := ⟨hx, rfl, hn, hd⟩
  unfold getAttr getAttrBy
  refine wpAny_bind (wpAny_mkText (wpAny_holding (wpAny_bind ?_)))
  have S1 := S.toks (s.toks + 1)
  have T0 : Looks c.M s.heap (typeOf (.ref x)) (.ref C) := I.type
  refine Looks.here T0 ?_
  refine wpAny_bind (Looks.here (looks_findIn S1.inK hga) ?_)
  dsimp only
  rw [if_neg (by rw [show (Value.builtin "list.__getattribute__" == Value.builtin "object.__getattribute__") = false from by decide, Bool.and_false]; decide)]
  unfold getAttrByItsOwn hookBefore
  refine wpAny_bind ?_
  rw [show onTheHeap (.ref C) = true from rfl, if_pos rfl]
  refine Looks.here (looks_findIn S1.inK hng) ?_
  refine wpAny_bind (wpAny_attempt (wpAny_holding ?_))
  unfold callGetattribute
  rw [if_neg (by cases expr <;> decide)]
  unfold boundAndCalled bindSpecial
  refine wpAny_bind (wpAny_bind (Looks.here (looks_typeIn S1.inK type_lga) ?_))
  rw [if_pos (by decide)]
  refine wpAny_pure ?_
  show wpAny c.M A (call (.builtin "list.__getattribute__") [.ref x, .str name s.toks]) _ _ _
  refine r_callB split_lga (.inl kind_lga) plain_lga (looks_isI S1 (L := L) T0 hC) entry_lga (args_lga _ _) ?_
  unfold Builtin.«object.__getattribute__»
  refine wpAny_bind (wpAny_pure ?_)
  refine wpAny_bind (wpAny_pure ?_)
  refine wpAny_bind (Looks.here T0 ?_)
  refine wpAny_bind (Looks.here (looks_find S1.inK I hf) ?_)
  show wpAny _ _ (holding [.ref f] (call (.builtin "function.__get__") [.ref f, .ref x, .ref C]) >>= ret) _ _ _
  have hTf : ({ s with toks := s.toks + 1 } : Shared).TypeIs (.ref f) "function" := ⟨_, S1.top hfo, hfc⟩
  refine wpAny_bind (wpAny_holding (wpAny_call_entry F.ks_slot_function_get hTf F.ks_entry_function_get ?_ (F.ks_getArgs_function _ _ _)))
  unfold Builtin.«function.__get__»
  refine wpAny_bind (wpAny_of_eq (a := (.ref f, some (.ref x), some (.ref C))) (by first | rfl | kernel_rfl) ?_)
  refine wpAny_bind (wpAny_newObj_type (wpAny_pure ⟨_, rfl, ?_⟩))
  refine wpAny_pure ⟨_, rfl, ?_⟩
  show wpAny c.M A (handedOut _) Q E _
  rw [handedOut_of rfl]
  exact wpAny_pure (h _ _ (S1.push rfl))
theorem callM_star {pos p : Pos} {e : Expr} {q f x : Addr} (hf : fnIn c.K f = true)
    (h : wpAny c.M A (eval e env) (fun v s₁ => StarOf c.M A E v (fun vs s₂ => MethP c.K q f (.ref x) s₂.heap ∧ codeAny c.M A (.call (.ref f) ⟨.ref x :: vs, []⟩) (fun r s' => match r with | .ok (.ret v) => Q v s' | .ok _ => False | .error e => E e s') s₂) s₁) E s) :
    wpAny c.M A (callWith pos (.ref q) [] (backTo pos (starEach [.Starred e p] env)) []) Q E s := by
  have he : starEach [.Starred e p] env = [(true, eval e env)] := rfl
  rw [he]
  refine ks_call (P := MethP c.K q f (.ref x)) rfl (keeps_M hf) (ks_lone (wpAny_mono h (fun v s₁ h₁ => ?_) fun _ _ z => z))
  unfold StarOf at h₁ ⊢
  refine wpAny_mono h₁ (fun b s₂ h₂ => ⟨h₂.1, wpAny_mono h₂.2 (fun vs s₃ h₃ => ⟨h₃.1, wpAny_call (method_call h₃.1.1 h₃.2)⟩) fun _ _ z => z⟩) fun _ _ z => z
theorem Call_attr_star {o a : Expr} {name : Str} {apos pos p : Pos}
    (h : wpAny c.M A (eval o env) (fun ov s₁ => wpAny c.M A (getAttr ov name true) (fun f s₂ => wpAny c.M A (callWith pos f [] (backTo pos (starEach [.Starred a p] env)) []) Q E s₂) E s₁) E s)
    (he : attributeBase o name env (eval o env) = eval o env := by rfl) :
    wpAny c.M A (eval (.Call (.Attribute o name apos) [.Starred a p] [] pos) env) Q E s := by
  show wpAny c.M A (attributeBase o name env (eval o env) >>= fun ov => standAt apos.atName >>= fun _ => methodCall o name apos pos env ov 1 (backTo pos (starEach [.Starred a p] env)) []) Q E s
  rw [he]
  refine wpAny_bind (wpAny_mono h (fun ov s₁ h₁ => wpAny_bind (wpAny_standAt ?_)) fun _ _ z => z)
  show wpAny c.M A (holding [ov] (getAttr ov name true >>= fun f => pure (f, ([] : List Value))) >>= fun fx => callWith pos fx.1 fx.2 (backTo pos (starEach [.Starred a p] env)) []) Q E s₁
  exact wpAny_bind (wpAny_holding (wpAny_bind (wpAny_mono h₁ (fun f s₂ h₂ => wpAny_pure h₂) fun _ _ z => z)))
end
/- Fw19 -/
set_option autoImplicit false
section
variable {c : Cx} {L : Addr} {m : Loc} {mu mu' led : List (Addr × Obj)} {s : Shared} {A : Around} {E : Value → Shared → Prop} {env : Env} {Q : Value → Shared → Prop} {d : Nat}
/-- one thing has become another -/
theorem At.swapM (S : At c L m mu led s) {a : Addr} {o o' : Obj} {h' : Heap} {tk : Nat} (hset : SetM a o o' mu mu') (hs : Heap.SameBut a s.heap h') (hg : h'.get? a = some o') : At c L m mu' led { s with heap := h', toks := tk } := by
  obtain ⟨i, h, rfl⟩ := hset.idx
  have hm := List.mem_of_getElem? h
  have ha := S.hmu _ hm
  have hk := set_keys (o' := o') h
  refine ⟨S.ok, S.ns.sameBut hs (Ne.symm ha.2.1), S.newL, fun b o e n => ?_, fun t ht => ?_, fun p hp => ?_, by rw [hk]; exact S.nod, fun p hp => ?_, S.gens, S.os⟩
  · exact (hs.2 b (Nat.ne_of_lt (Nat.lt_of_lt_of_le (Heap.lt_size e) ha.2.2))).trans (S.keep b o e n)
  · exact (S.tab t ht).of fun b o hb e => (hs.2 _ (Nat.ne_of_lt (Nat.lt_of_lt_of_le (hb.elim (fun q => q ▸ (S.ok.tab_lt ht).1) fun q => q ▸ (S.ok.tab_lt ht).2) ha.2.2))).trans e
  · obtain ⟨j, hj⟩ := List.getElem?_of_mem hp
    rw [List.getElem?_set] at hj
    by_cases q : i = j
    · rw [if_pos q] at hj
      split at hj
      · cases hj; exact ⟨hg, ha.2⟩
      · cases hj
    · rw [if_neg q] at hj
      have hp' := List.mem_of_getElem? hj
      refine ⟨(hs.2 _ fun z => ?_).trans (S.hmu p hp').1, (S.hmu p hp').2⟩
      have nd := S.nod
      have i1 : (mu.map (·.1))[i]? = some a := by rw [List.getElem?_map, h]; rfl
      have i2 : (mu.map (·.1))[j]? = some a := by rw [List.getElem?_map, hj]; simp [z]
      obtain ⟨l1, e1⟩ := List.getElem?_eq_some_iff.mp i1
      obtain ⟨l2, e2⟩ := List.getElem?_eq_some_iff.mp i2
      exact q ((List.getElem_inj nd).mp (e1.trans e2.symm))
  · rw [hk]
    exact ⟨(hs.2 _ fun z => (S.hled p hp).2.2.1 (List.mem_map.mpr ⟨_, hm, z.symm⟩)).trans (S.hled p hp).1, (S.hled p hp).2⟩
/-- one thing is known no more -/
theorem At.loseM (S : At c L m mu led s) {a : Addr} {h' : Heap} {tk : Nat} (hsub : mu'.Sublist mu) (hne : a ∉ mu'.map (·.1)) (hin : a ∈ mu.map (·.1)) (hs : Heap.ExtBut a s.heap h') : At c L m mu' led { s with heap := h', toks := tk } := by
  obtain ⟨p0, hp0, rfl⟩ := List.mem_map.mp hin
  have ha := S.hmu _ hp0
  have hb : ∀ b, b < c.base.objs.size → b ≠ p0.1 := fun b hb e => Nat.lt_irrefl _ (Nat.lt_of_lt_of_le (e ▸ hb) ha.2.2)
  obtain ⟨dn, f, ⟨oL, es, ep, hL, r⟩, hf⟩ := S.ns
  refine ⟨S.ok, ⟨dn, f, ⟨oL, es, ep, hs L oL (Ne.symm ha.2.1) hL, r⟩, hf⟩, S.newL, fun b o e n => hs b o (hb b (Heap.lt_size e)) (S.keep b o e n), fun t ht => ?_, fun p hp => ?_, (hsub.map _).nodup S.nod, fun p hp => ?_, S.gens, S.os⟩
  · exact (S.tab t ht).of fun b o hb' e => hs b o (hb b (hb'.elim (fun q => q ▸ (S.ok.tab_lt ht).1) fun q => q ▸ (S.ok.tab_lt ht).2)) e
  · have := S.hmu p (hsub.subset hp)
    exact ⟨hs _ _ (fun e => hne (List.mem_map.mpr ⟨p, hp, e⟩)) this.1, this.2⟩
  · have := S.hled p hp
    refine ⟨hs _ _ (fun e => this.2.2.1 (List.mem_map.mpr ⟨p0, hp0, e.symm⟩)) this.1, this.2.1, fun x => this.2.2.1 ?_, this.2.2.2⟩
    obtain ⟨y, hy, e⟩ := List.mem_map.mp x
    exact List.mem_map.mpr ⟨y, hsub.subset hy, e⟩
/-- a for loop -/
theorem r_for {target : Expr} {it : Value} {body orelse : List Stmt} {R : Result → Shared → Prop} (J : Nat → Shared → Prop) (N : Nat)
    (step : ∀ i s, i < N → J i s → wpAny c.M A (pyNext it) (fun r s₁ => ∃ v, r = some v ∧ wpAny c.M A (assign target env v) (fun _ s₂ => wpAny c.M A (execs body env) (fun f s₃ => match f with
      | .next | .cont => J (i + 1) s₃ | .brk => R (.ok .next) s₃ | .ret v => R (.ok (.ret v)) s₃) (fun _ _ => False) s₂) (fun _ _ => False) s₁) (fun _ _ => False) s)
    (last : ∀ s, J N s → wpAny c.M A (pyNext it) (fun r s₁ => r = none ∧ wpAny c.M A (execs orelse env) (fun f s₃ => R (.ok f) s₃) (fun _ _ => False) s₁) (fun _ _ => False) s)
    (h : J 0 s) (ht : ∀ v, letOwnedTupleGo target it v = pure () := by intro _; rfl) : codeAny c.M A (.forLoop target it body orelse env) R s := by
  refine codeAny_forLoop (fun n s => ∃ i, n = N - i ∧ i ≤ N ∧ J i s) (fun n s hI => ?_) N ⟨0, by omega, by omega, h⟩ ht
  obtain ⟨i, rfl, hi, hJ⟩ := hI
  by_cases q : i = N
  · subst q
    refine wpAny_mono (last s hJ) (fun r s₁ hr => ?_) fun _ _ z => z.elim
    obtain ⟨rfl, hr⟩ := hr
    exact wpAny_mono hr (fun _ _ z => z) fun _ _ z => z.elim
  · refine wpAny_mono (step i s (by omega) hJ) (fun r s₁ hr => ?_) fun _ _ z => z.elim
    obtain ⟨v, rfl, hr⟩ := hr
    refine wpAny_mono hr (fun _ s₂ h₂ => wpAny_mono h₂ (fun f s₃ h₃ => ?_) fun _ _ z => z.elim) fun _ _ z => z.elim
    cases f <;> first | exact ⟨N - (i + 1), by omega, i + 1, rfl, by omega, h₃⟩ | exact h₃
/-! iterators -/
abbrev rngO (x left step : Int) : Obj := { cls := .type "range_iterator", dict := none, data := .fields #[rawInt x, rawInt left, rawInt step], slots := #[] }
theorem nx_range {it : Addr} {x left step : Int} {Q : Option Value → Shared → Prop} (S : At c L m mu led s) (hm : SetM it (rngO x left step) (rngO (x + step) (left - 1) step) mu mu') (hl : 0 < left)
    (h : ∀ t s', At c L m mu' led s' → Q (some (.int x t)) s') : wpAny c.M A (pyNext (.ref it)) Q E s :=
  wpAny_pyNext_range_item (S.muGet hm.mem) hl fun _ hi hs => h _ _ (S.swapM hm hs hi)
theorem nx_rangeEnd {it : Addr} {x left step : Int} {Q : Option Value → Shared → Prop} (S : At c L m mu led s) (hm : (it, rngO x left step) ∈ mu) (hsub : mu'.Sublist mu) (hne : it ∉ mu'.map (·.1)) (hh : A.handled = none) (hl : left ≤ 0)
    (h : ∀ s', At c L m mu' led s' → Q none s') : wpAny c.M A (pyNext (.ref it)) Q E s :=
  wpAny_pyNext_range_end hh (S.muGet hm) hl fun h' hs => h _ (S.loseM (tk := s.toks) hsub hne (List.mem_map.mpr ⟨_, hm, rfl⟩) hs)
/-- iter of a range that is there -/
theorem it_range {r : Addr} {a b st : Int} {t u v : Tok} (S : At c L m mu led s) (hr : (r, { cls := .type "range", data := .fields #[.int a t, .int b u, .int st v] }) ∈ led) (hsm : Builtin.Range.small a b st = true)
    (h : ∀ it s', At c L m ((it, rngO a (Builtin.Range.rangeSize a b st) st) :: mu) led s' → Q (.ref it) s') : wpAny c.M A (pyIter (.ref r)) Q E s :=
  wpAny_pyIter_range (S.ledGet hr) hsm (h _ _ (S.pushM rfl))
abbrev rangeO (a b st : Int) (t u v : Tok) : Obj := { cls := .type "range", data := .fields #[.int a t, .int b u, .int st v] }
theorem r_range1 {n : Int} {t : Tok} (S : At c L m mu led s) (h : ∀ r t1 t2 s', At c L m mu ((r, rangeO 0 n 1 t1 t t2) :: led) s' → Q (.ref r) s') : wpAny c.M A (call (.type "range") [.int n t]) Q E s :=
  call_range_1 (h _ _ _ _ ((S.push (o := rangeO 0 n 1 s.toks t (s.toks + 1)) rfl).toks (s.toks + 1 + 1)))
theorem r_range2 {a n : Int} {t u : Tok} (S : At c L m mu led s) (h : ∀ r t2 s', At c L m mu ((r, rangeO a n 1 t u t2) :: led) s' → Q (.ref r) s') : wpAny c.M A (call (.type "range") [.int a t, .int n u]) Q E s :=
  call_range_2 (h _ _ _ ((S.push (o := rangeO a n 1 t u s.toks) rfl).toks (s.toks + 1)))
theorem r_range3 {a b st : Int} {t u v : Tok} (S : At c L m mu led s) (hc : st ≠ 0) (hp : Builtin.divisionGoesByPylong (b - a) st = false) (h : ∀ r s', At c L m mu ((r, rangeO a b st t u v) :: led) s' → Q (.ref r) s') : wpAny c.M A (call (.type "range") [.int a t, .int b u, .int st v]) Q E s :=
  call_range_3 hc (h _ _ (S.push (o := rangeO a b st t u v) rfl)) (.inl hp)
/-- an iterator over what bears items -/
def ItL (l : Addr) (i : Nat) (o : Obj) : Prop := o.cls = .type "list_iterator" ∧ o.data = .fields #[.ref l, .int i 0]
theorem nx_list {it l : Addr} {i : Nat} {o : Obj} {vs : List Value} {v : Value} {Q : Option Value → Shared → Prop} {mu'' : Obj → List (Addr × Obj)} (S : At c L m mu led s) (hm : ∀ o', SetM it o o' mu (mu'' o')) (hi : ItL l i o) (hl : IsSeq s.heap l vs) (hv : vs[i]? = some v)
    (h : ∀ o' s', ItL l (i + 1) o' → At c L m (mu'' o') led s' → Q (some v) s') : wpAny c.M A (pyNext (.ref it)) Q E s :=
  next_item ⟨o, S.muGet (hm o).mem, hi⟩ hl hv fun h' hit hs => by
    obtain ⟨o', ho', hi'⟩ := hit
    exact h o' _ hi' (S.swapM (tk := s.toks) (hm o') hs ho')
theorem nx_listEnd {it l : Addr} {i : Nat} {o : Obj} {vs : List Value} {Q : Option Value → Shared → Prop} (S : At c L m mu led s) (hm : (it, o) ∈ mu) (hi : ItL l i o) (hsub : mu'.Sublist mu) (hne : it ∉ mu'.map (·.1)) (hl : IsSeq s.heap l vs) (hv : vs[i]? = none) (hh : A.handled = none)
    (h : ∀ s', At c L m mu' led s' → Q none s') : wpAny c.M A (pyNext (.ref it)) Q E s :=
  next_end hh ⟨o, S.muGet hm, hi⟩ hl hv fun h' hs => h _ (S.loseM (tk := s.toks) hsub hne (List.mem_map.mpr ⟨_, hm, rfl⟩) hs)
/-- an iterator over a text -/
def ItS (x : Str) (t : Tok) (i : Nat) (o : Obj) : Prop := o.cls = .type "str_ascii_iterator" ∧ o.data = .fields #[.str x t, .int i 0]
theorem it_str {x : Str} {t : Tok} (S : At c L m mu led s) (hx : x.cps.all (· < 128) = true) (h : ∀ it o s', ItS x t 0 o → At c L m ((it, o) :: mu) led s' → Q (.ref it) s') : wpAny c.M A (pyIter (.str x t)) Q E s :=
  wpAny_pyIter_ascii hx (h _ _ _ ⟨rfl, rfl⟩ (S.pushM rfl))
theorem nx_str {it : Addr} {x : Str} {t : Tok} {i ch : Nat} {o : Obj} {Q : Option Value → Shared → Prop} {mu'' : Obj → List (Addr × Obj)} (S : At c L m mu led s) (hm : ∀ o', SetM it o o' mu (mu'' o')) (hi : ItS x t i o) (hv : x.cps[i]? = some ch)
    (h : ∀ o' t' s', ItS x t (i + 1) o' → At c L m (mu'' o') led s' → Q (some (.str ⟨#[ch]⟩ t')) s') : wpAny c.M A (pyNext (.ref it)) Q E s :=
  wpAny_pyNext_ascii_item ⟨o, S.muGet (hm o).mem, hi⟩ hv fun h' hit hs => by
    obtain ⟨o', ho', hi'⟩ := hit
    exact h o' _ _ hi' (S.swapM (hm o') hs ho')
theorem nx_strEnd {it : Addr} {x : Str} {t : Tok} {i : Nat} {o : Obj} {Q : Option Value → Shared → Prop} (S : At c L m mu led s) (hm : (it, o) ∈ mu) (hi : ItS x t i o) (hsub : mu'.Sublist mu) (hne : it ∉ mu'.map (·.1)) (hv : x.cps[i]? = none) (hh : A.handled = none)
    (h : ∀ s', At c L m mu' led s' → Q none s') : wpAny c.M A (pyNext (.ref it)) Q E s :=
  wpAny_pyNext_ascii_end hh ⟨o, S.muGet hm, hi⟩ hv fun h' hs => h _ (S.loseM (tk := s.toks) hsub hne (List.mem_map.mpr ⟨_, hm, rfl⟩) hs)
end
/- Fw20 -/
set_option autoImplicit false
def startsB (x : Str) (c : Nat) : Bool := x.cps[0]? == some c
def endsB (x : Str) (c : Nat) : Bool := x.cps[x.cps.size - 1]? == some c
def cutB (sp : Bool) (c : Nat) (ps : List Part) (i : Nat) : Bool := (sp && startsB (ps.getD i Part.dflt).f c) || endsB (ps.getD (i - 1) Part.dflt).p c
section
variable {c : Cx} {L : Addr} {m : Loc} {mu mu' led : List (Addr × Obj)} {s : Shared} {A : Around} {E : Value → Shared → Prop} {env : Env} {Q : Value → Shared → Prop} {d : Nat}
theorem At.locSub {m' : Loc} (S : At c L m mu led s) (hk : m'.map (·.1) = m.map (·.1)) (h : ∀ x v, (x, some v) ∈ m' → (x, some v) ∈ m) : At c L m' mu led s :=
  have hns : Bears s.heap L m' := by
    obtain ⟨dn, f, hn, hf⟩ := S.ns
    exact ⟨by rw [hk]; exact dn, f, hn, fun x v hm => hf x v (h x v hm)⟩
  { S with ns := hns }
theorem beq_one (a b : Nat) : ((⟨#[a]⟩ : Str) == ⟨#[b]⟩) = (a == b) := by
  by_cases h : a = b
  · subst h; simp
  · rw [beq_eq_false_iff_ne.mpr h]
    exact beq_eq_false_iff_ne.mpr fun e => h (by simpa using e)
theorem r_first {x y v : Str} {tv tc : Tok} {ch : Nat} {k : Nat} {p1 p2 p3 p4 p5 p6 p7 : Pos} {whole : Sem Value} {Q : Bool → Shared → Prop} (S : At c env.locals m mu led s) (hx : (x, some (.str v tv)) ∈ m) (hy : (y, some (.str ⟨#[ch]⟩ tc)) ∈ m)
    (hk : env.scope.kind = .function) (hlx : env.kindOf x = some .local) (hly : env.kindOf y = some .local) (hdx : (x == ("__debug__" : Str)) = false) (hdy : (y == ("__debug__" : Str)) = false) (hz : v.length ≤ 1000000)
    (h : ∀ s', At c env.locals m mu led s' → Q (startsB v ch) s') :
    wpAny c.M A (isTrue (.BoolOp .And [.Name x p1, .Compare (.Subscript (.Name x p2) (.Constant (.int 0) k p3) p4) [.Eq] [.Name y p5] p6] p7) env whole) Q E s := by
  refine isTrue_and (isTrue_plain (r_local S hx ?_ hk hlx hdx))
  refine P.truthy_str (by omega) ?_
  have S1 := S.toks (s.toks + 1 + 1)
  by_cases hv : v.length = 0
  · have e : startsB v ch = false := by
      have : v.cps.size = 0 := hv
      unfold startsB; rw [Array.getElem?_eq_none (by omega)]; rfl
    rw [show ((v.length : Int) != 0) = false by rw [hv]; rfl]
    have h' := h _ S1
    rw [e] at h'
    exact h'
  · rw [show ((v.length : Int) != 0) = true by simpa using hv]
    have hlt : 0 < v.cps.size := by have : v.cps.size = v.length := rfl; omega
    refine isTrue_and (wpAny_isTrue_Compare1 (Subscript_ (r_local S1 hx (r_int S1 fun t2 s2 S2 => ?_) hk hlx hdx)))
    refine subscriptTail_builtin (typeIs_str _ _ _) F.slot_str_getitem.lookup (P.getItem_str (c := v.cps[0]) (by decide) ?_ ?_)
    · show (seqIndex? 0 v.length).bind _ = _
      have : seqIndex? 0 v.length = some 0 := by unfold seqIndex?; simp; omega
      rw [this]; simp [hlt]
    · have S3 := S2.toks (s2.toks + 1)
      refine r_local S3 hy (PyProof.Rows.eq_str (wpAny_truthy_bool ?_)) hk hly hdy
      rw [beq_one]
      have e : startsB v ch = (v.cps[0] == ch) := by unfold startsB; rw [Array.getElem?_eq_getElem hlt]; rfl
      cases hb : v.cps[0] == ch
      · have h' := h _ S3
        rw [e.trans hb] at h'
        exact h'
      · have h' := h _ S3
        rw [e.trans hb] at h'
        exact isTrue_and_nil h'
theorem r_lastT {x y v : Str} {tv tc : Tok} {ch : Nat} {k : Nat} {p1 p2 p3 p4 p5 p6 p7 p8 : Pos} {whole : Sem Value} {Q : Bool → Shared → Prop} (S : At c env.locals m mu led s) (hx : (x, some (.str v tv)) ∈ m) (hy : (y, some (.str ⟨#[ch]⟩ tc)) ∈ m)
    (hk : env.scope.kind = .function) (hlx : env.kindOf x = some .local) (hly : env.kindOf y = some .local) (hdx : (x == ("__debug__" : Str)) = false) (hdy : (y == ("__debug__" : Str)) = false) (hz : v.length ≤ 1000000)
    (h : ∀ s', At c env.locals m mu led s' → Q (endsB v ch) s') :
    wpAny c.M A (isTrue (.BoolOp .And [.Name x p1, .Compare (.Subscript (.Name x p2) (.UnaryOp .USub (.Constant (.int 1) k p3) p8) p4) [.Eq] [.Name y p5] p6] p7) env whole) Q E s := by
  refine isTrue_and (isTrue_plain (r_local S hx ?_ hk hlx hdx))
  refine P.truthy_str (by omega) ?_
  have S1 := S.toks (s.toks + 1 + 1)
  by_cases hv : v.length = 0
  · have e : endsB v ch = false := by
      have : v.cps.size = 0 := hv
      unfold endsB; rw [Array.getElem?_eq_none (by omega)]; rfl
    rw [show ((v.length : Int) != 0) = false by rw [hv]; rfl]
    have h' := h _ S1
    rw [e] at h'
    exact h'
  · rw [show ((v.length : Int) != 0) = true by simpa using hv]
    have hsz : v.cps.size = v.length := rfl
    have hlt : v.cps.size - 1 < v.cps.size := by omega
    refine isTrue_and (wpAny_isTrue_Compare1 (Subscript_ (r_local S1 hx (wpAny_UnaryOp (r_int S1 fun t2 s2 S2 => PyProof.Rows.neg_int ?_)) hk hlx hdx)))
    have S2' := S2.toks (s2.toks + 1)
    refine subscriptTail_builtin (typeIs_str _ _ _) F.slot_str_getitem.lookup (P.getItem_str (c := v.cps[v.cps.size - 1]) (by decide) ?_ ?_)
    · show (seqIndex? (-1) v.length).bind _ = _
      have : seqIndex? (-1) v.length = some (v.cps.size - 1) := by unfold seqIndex?; simp; omega
      rw [this]; simp [hlt]
    · have S3 := S2'.toks (s2.toks + 1 + 1)
      refine r_local S3 hy (PyProof.Rows.eq_str (wpAny_truthy_bool ?_)) hk hly hdy
      rw [beq_one]
      have e : endsB v ch = (v.cps[v.cps.size - 1] == ch) := by unfold endsB; rw [Array.getElem?_eq_getElem hlt]; rfl
      cases hb : v.cps[v.cps.size - 1] == ch
      · have h' := h _ S3
        rw [e.trans hb] at h'
        exact h'
      · have h' := h _ S3
        rw [e.trans hb] at h'
        exact isTrue_and_nil h'
theorem r_itemT {value slice : Expr} {t : Addr} {l : List Value} {k : Int} {u : Tok} {j : Nat} {x : Value} (S : At c L m mu led s) (ht : (t, tupO l) ∈ led) (hlo : -(2 ^ 63) ≤ k) (hhi : k < 2 ^ 63) (hj : seqIndex? k l.length = some j) (hx : l[j]? = some x)
    (hs : subscripted slice false (.ref t) (.int k u) = operate [.ref t, .int k u] (getItem (.ref t) (.int k u))) (h : Q x s) : wpAny c.M A (subscriptTail value slice (.ref t) (.int k u)) Q E s :=
  r_tail (t := .type "tuple") S.inK (looks_ref (S.ledGet ht) rfl) (id := "tuple.__getitem__") (by kernel_rfl) hs (getItem_tuple (items := l.toArray) ⟨_, S.ledGet ht, rfl, _, rfl⟩ hlo hhi (by simpa using hj) (by simpa using hx) h)
end
/- Fw21 -/
set_option autoImplicit false
def makesL (K : Frag) (C : Addr) : Bool := match K.lookup C with
  | some ⟨_, _, .cls cd, sl⟩ => !cd.hasDel && (sl.toList[4]?).join == some (.builtin "list.__new__") && !cd.mro.isEmpty && cd.mro.contains (.ref C) && cd.mro.contains (.type "list") &&
      specialIn K (.ref C) "__call__" == some (some (.builtin "type.__call__")) && instIn K (.ref C) (.type "type") == some true
  | _ => false
structure MakesL (M : Model) (h : Heap) (C : Addr) : Prop where
  obj : ∃ oc od cd sl, h.get? C = some ⟨oc, od, .cls cd, sl⟩ ∧ cd.hasDel = false ∧ cd.mro.isEmpty = false
  made : Looks M h (Bind.madeBy (.ref C)) (some "list.__new__")
  base : Looks M h (Bind.staticBase (.ref C)) (.ref C)
  self : Looks M h (isSubtype (.ref C) (.ref C)) true
  top : Looks M h (isSubtype (.ref C) (.type "list")) true
  call : Looks M h (specialOf (.ref C) "__call__") (some (.builtin "type.__call__"))
  typ : Looks M h (isInstance (.ref C) (.type "type")) true
theorem makesL_of {K : Frag} {M : Model} {h : Heap} (X : K.In h) {C : Addr} (e : makesL K C = true) : MakesL M h C := by
  unfold makesL at e
  split at e
  · rename_i oc od cd sl ho
    simp only [Bool.and_eq_true, Bool.not_eq_true', beq_iff_eq] at e
    obtain ⟨⟨⟨⟨⟨⟨e2, e3⟩, e4⟩, e5⟩, e6⟩, e7⟩, e8⟩ := e
    have hc : clsIn K C = some cd := by unfold clsIn; rw [ho]
    have hm : Looks M h (mroOf (.ref C)) cd.mro := (looks_clsIn X hc).andThen .now
    obtain ⟨c, l, hl⟩ : ∃ c l, cd.mro = c :: l := by cases q : cd.mro with | nil => rw [q] at e4; cases e4 | cons c l => exact ⟨c, l, rfl⟩
    have made : Looks M h (Bind.madeBy (.ref C)) (some "list.__new__") := by
      intro A Q E s k q
      unfold Bind.madeBy
      refine wpAny_bind (hm A _ E s k ?_)
      rw [hl, List.forIn_cons]
      refine wpAny_bind (wpAny_bind (wpAny_bind (wpAny_bind (wpAny_loadPart (k _ _ (X _ _ ho)) (wpAny_pure ?_)))))
      dsimp only
      rw [← Array.getElem?_toList, e3]
      exact wpAny_pure (wpAny_pure (wpAny_pure q))
    refine ⟨⟨oc, od, cd, sl, X _ _ ho, e2, e4⟩, made, ?_, looks_mroIn X ?_, looks_mroIn X ?_, looks_specialIn X e7, looks_instIn X e8⟩
    · intro A Q E s k q
      unfold Bind.staticBase
      refine wpAny_bind (hm A _ E s k ?_)
      rw [hl, List.forIn_cons]
      exact wpAny_bind (wpAny_bind (wpAny_bind (made A _ E s k (wpAny_pure (wpAny_pure (wpAny_pure q))))))
    · unfold mroIn; rw [hc, Option.bind_some, if_neg (by rw [e4]; decide), e5]
    · unfold mroIn; rw [hc, Option.bind_some, if_neg (by rw [e4]; decide), e6]
  · cases e
theorem ln_kind : builtinKind "list.__new__" = some .builtinFn := by decide +kernel
theorem ln_split : splitId "list.__new__" = some ("list", "__new__") := by decide +kernel
theorem ln_row : Manifest.signature? "list.__new__" = some ⟨.any, "list", "list", .cls, [⟨"args", .varPos, false⟩, ⟨"kwargs", .varKw, false⟩]⟩ := by kernel_rfl
theorem ln_args (C : Addr) (a : Value) : Bind.checkArgs "list.__new__" ⟨.any, "list", "list", .cls, [⟨"args", .varPos, false⟩, ⟨"kwargs", .varKw, false⟩]⟩ ⟨[.ref C, a], []⟩ = pure () := by kernel_rfl
section
variable {prog : Program} {w : World} {A : Around} {K : Frag} {C : Addr} {R : Result → Shared → Prop} {h : Heap} {g : Array GenState} {d : Drawn} {t : Nat} {os : OsState}
theorem new_L {a : Value} (Y : MakesL (model prog w) h C)
    (hq : R (.ok (.ret (.ref (h.objs.size + 1)))) ⟨(h.push emptyDict).push (accO C h.objs.size [] 0), g, d, t, os⟩) :
    codeAny (model prog w) A (.call (.builtin "list.__new__") ⟨[.ref C, a], []⟩) R ⟨h, g, d, t, os⟩ := by
  obtain ⟨⟨oc, od, cd, sl, hC, e2, e4⟩, made, base, self, top, call, typ⟩ := Y
  refine codeAny_of_tree ?_
  show wpAny _ A.in1 (do checkBuiltinCall "list.__new__" ⟨[.ref C, a], []⟩; again (.builtin "list.__new__" ⟨[.ref C, a], []⟩)) _ _ _
  refine wpAny_bind ?_
  simp only [checkBuiltinCall, ln_kind, ln_split, ln_row]
  rw [ln_args]
  refine KFB.if_so (by decide) ?_
  refine wpAny_bind (ks_wpAny_isType_cls hC rfl ?_)
  refine KFB.if_not rfl ?_
  refine wpAny_bind (top.at ?_)
  refine KFB.if_not rfl ?_
  refine wpAny_bind (base.at ?_)
  refine wpAny_bind (made.at ?_)
  dsimp only
  refine KFB.if_not (by decide +kernel) ?_
  refine wpAny_pure ?_
  refine wpAny_pure ⟨plainId_quiet F.plain_list_new _, codeAny_builtin_stack F.entry_list_new rfl fun p st => ?_⟩
  rw [Around.under_plainId F.plain_list_new _]
  have hown := owner_list_new
  simp only [hown]
  refine wpAny_bind (ks_wpAny_isType_cls hC rfl ?_)
  refine KFB.if_not rfl ?_
  refine wpAny_bind (top.at ?_)
  refine KFB.if_not rfl ?_
  refine wpAny_bind (wpAny_pure ?_)
  show wpAny _ _ (newDict >>= _) _ _ _
  refine wpAny_bind (wpAny_newObj_type ?_)
  dsimp only
  show wpAny _ _ (newObjAsIs _ _ _ >>= _) _ _ _
  unfold newObjAsIs classHasDel
  refine wpAny_bind (wpAny_bind (wpAny_alloc (wpAny_bind (wpAny_bind (wpAny_load (Heap.get?_push_of_some _ (Heap.get?_push_of_some _ hC)) (wpAny_pure ?_))))))
  rw [e2]
  refine wpAny_pure (wpAny_pure ?_)
  show R _ _
  rw [Heap.size_push]
  exact hq
theorem make_L {a : Value} {init : Value} (Y : MakesL (model prog w) h C) (hi : Looks (model prog w) h (typeLookup (.ref C) "__init__") (some init))
    (hb : ∀ self, Looks (model prog w) h (bindSpecial init self) (init, [self]))
    (hq : codeAny (model prog w) (A.under (.builtin "type.__call__" ⟨[.ref C, a], []⟩)) (.call init ⟨[.ref (h.objs.size + 1), a], []⟩) (InitBack (h.objs.size + 1) R) ⟨(h.push emptyDict).push (accO C h.objs.size [] 0), g, d, t, os⟩) :
    codeAny (model prog w) A (.call (.ref C) ⟨[a], []⟩) R ⟨h, g, d, t, os⟩ := by
  have Y' := Y
  obtain ⟨⟨oc, od, cd, sl, hC, e2, e4⟩, made, base, self, top, call, typ⟩ := Y
  refine codeAny_of_tree ?_
  show wpAny _ _ (callAny (.ref C) _) _ _ _
  refine nd_load hC ?_
  show wpAny _ _ (callAny.viaDunder (.ref C) _) _ _ _
  unfold callAny.viaDunder
  refine wpAny_bind (call.at ?_)
  dsimp only
  rw [tc_bind]
  refine wpAny_bind (wpAny_pure (wpAny_bind (wpAny_pure ?_)))
  refine wpAny_pure (a := Fin.again (.call (.builtin "type.__call__") ⟨[.ref C, a], []⟩)) (And.intro rfl ?_)
  refine codeAny_call_builtin_at (Code.quiet_builtin _ (by decide +kernel)) entry_typeCall (check_slot tc_kind tc_split typ (tc_args _ _ _) ?_)
  unfold Builtin.«type.__call__»
  have hm : Looks (model prog w) h (mroOf (.ref C)) cd.mro := ((Looks.ld (part := none) hC).andThen .now).andThen .now
  repeat (first | simp only [e4, Bool.false_eq_true, if_false] | with_reducible refine wpAny_call ?_ | lk)
  refine new_L Y' ?_
  have k : ∀ b o, h.get? b = some o → ((h.push emptyDict).push (accO C h.objs.size [] 0)).get? b = some o := fun b o e => Heap.get?_push_of_some _ (Heap.get?_push_of_some _ e)
  have hx : ((h.push emptyDict).push (accO C h.objs.size [] 0)).get? (h.objs.size + 1) = some (accO C h.objs.size [] 0) := by heap_get
  have t1 : Looks (model prog w) ((h.push emptyDict).push (accO C h.objs.size [] 0)) (typeOf (.ref (h.objs.size + 1))) (.ref C) := (Looks.ld hx).andThen .now
  have s1 := self.keeps k
  have i1 := hi.keeps k
  have b1 := (hb (.ref (h.objs.size + 1))).keeps k
  unfold isInstance callSpecial? specialOf
  repeat (first | with_reducible refine wpAny_call ?_ | lk)
  refine codeAny_mono hq fun r s' z => ?_
  rcases r with e | (v | _ | _ | _) <;> first | exact z | exact z.elim | skip
  obtain ⟨rfl, z⟩ := z
  exact wpAny_pure (wpAny_pure z)
end
section
variable {c : Cx} {L : Addr} {m : Loc} {mu mu' led : List (Addr × Obj)} {s : Shared} {A : Around} {R : Result → Shared → Prop} {d : Nat}
theorem AOk.under {A : Around} {d : Nat} (h : AOk A d) (C : Addr) (vals : List Value) : AOk (A.under (.builtin "type.__call__" ⟨.ref C :: vals, []⟩)) (d + 1) := by
  refine ⟨h.handled, ?_, ?_, ?_⟩
  · show A.depth + 1 ≤ d + 1
    have := h.depth; omega
  · show A.units + 1 ≤ 20 * (d + 1)
    have := h.units; omega
  · exact h.frames
/-- a new instance of a class of the text that is a list -/
theorem r_makeL {C fI : Addr} {a : Value} (S : At c L m mu led s) (hm : makesL c.K C = true) (hi : findIn c.K (.ref C) "__init__" = some (some (.ref fI))) (hf : typeIn c.K (.ref fI) = some (.type "function"))
    (h : ∀ x dx s', At c L m ((x, accO C dx [] 0) :: (dx, dictOf [] 0) :: mu) led s' → codeAny c.M (A.under (.builtin "type.__call__" ⟨[.ref C, a], []⟩)) (.call (.ref fI) ⟨[.ref x, a], []⟩) (InitBack x R) s') :
    codeAny c.M A (.call (.ref C) ⟨[a], []⟩) R s := by
  have X := S.inK
  have S1 := S.pushM (o := emptyDict) rfl
  have S2 := S1.pushM (o := accO C s.heap.objs.size [] 0) rfl
  obtain ⟨hh, g, d, t, os⟩ := s
  refine make_L (makesL_of X hm) (looks_findIn X hi) (fun self => bind_fn X self hf) ?_
  have e : (hh.push emptyDict).objs.size = hh.objs.size + 1 := Heap.size_push ..
  have S3 : At c L m ((hh.objs.size + 1, accO C hh.objs.size [] 0) :: (hh.objs.size, emptyDict) :: mu) led ⟨(hh.push emptyDict).push (accO C hh.objs.size [] 0), g, d, t, os⟩ := by
    rw [← e]; exact S2
  exact h _ _ _ S3
/-- a new instance of a plain class of the text -/
theorem r_make {C fI : Addr} {rest : List Value} (S : At c L m mu led s) (hm : makesIn c.K C = true) (hi : findIn c.K (.ref C) "__init__" = some (some (.ref fI))) (hf : typeIn c.K (.ref fI) = some (.type "function"))
    (h : ∀ x dx s', At c L m ((x, instObj C dx) :: (dx, dictOf [] 0) :: mu) led s' → codeAny c.M (A.under (.builtin "type.__call__" ⟨.ref C :: rest, []⟩)) (.call (.ref fI) ⟨.ref x :: rest, []⟩) (InitBack x R) s') :
    codeAny c.M A (.call (.ref C) ⟨rest, []⟩) R s := by
  have X := S.inK
  have S1 := S.pushM (o := emptyDict) rfl
  have S2 := S1.pushM (o := instObj C s.heap.objs.size) rfl
  obtain ⟨hh, g, d, t, os⟩ := s
  refine make_core (makes_of X hm) (looks_findIn X hi) (fun self => bind_fn X self hf) (.inl rfl) ?_
  have e : (hh.push emptyDict).objs.size = hh.objs.size + 1 := Heap.size_push ..
  have S3 : At c L m ((hh.objs.size + 1, instObj C hh.objs.size) :: (hh.objs.size, emptyDict) :: mu) led ⟨(hh.push emptyDict).push (instObj C hh.objs.size), g, d, t, os⟩ := by
    rw [← e]; exact S2
  exact h _ _ _ S3
end
/- Fw22 -/
set_option autoImplicit false
section
variable {c : Cx} {L : Addr} {m : Loc} {mu led : List (Addr × Obj)} {s : Shared} {A : Around} {R : Result → Shared → Prop} {d : Nat}
theorem r_defAt0 {f : Addr} {args : List Value} {fd : FuncData} {body : List Stmt} {binds : List (Str × Value)} (S : At c L m mu led s) (hA : AOk A d) (hd : d ≤ 480)
    (ho : c.K.lookup f = some { cls := .type "function", data := .func fd }) (hcode : codeIn c.K fd.code fd.qualname = true) (hbody : fd.body = .stmts body) (hbind : BindsTo s fd ⟨args, []⟩ binds)
    (hcell : (fd.scope.names.all fun x => !(x.2 == NameKind.cell)) = true) (hloc : (binds.all fun x => decide (fd.scope.names.lookup x.1 = some .local)) = true)
    (l : Loc) (hnd : nodupB (l.map (·.1)) = true) (hl : LocOk (fun x => binds.reverse.lookup x) l)
    (hco : fd.scope.isCoroutine = false) (hgen : fd.scope.isGenerator = false) (hk : fd.scope.kind = .function)
    (h : ∀ L' oL s', At c L' l mu ((L, oL) :: led) s' → Backs c L m oL → AOk (A.deeper (fenv fd L' f fd.closure)) (d + 1) →
      _root_.PySem.wpAt c.M (A.deeper (fenv fd L' f fd.closure)) (.func body (fenv fd L' f fd.closure)) (execs body (fenv fd L' f fd.closure)) (fun fl s' => R (.ok (.ret (retOf fl))) s') (fun _ _ => False) s') :
    codeAny c.M A (.call (.ref f) ⟨args, []⟩) R s := by
  refine ks_codeAny_call_defAt (hA.room hd) (S.top ho) rfl S.lim (codeRec_of S.inK hcode) hbody hbind (fun x hx e => ?_) (locs hloc) (fun h₀ hns hk₀ => ?_) hco hgen hk
  · have := List.all_eq_true.mp hcell x hx
    rw [e] at this; cases this
  · obtain ⟨oL, hb, hdict, S'⟩ := S.enter (s' := ⟨h₀, s.gens, s.drawn, s.toks + binds.length, s.os⟩) (Nat.le_refl _) ⟨nodup_of hnd, _, hns, hl.all⟩ hk₀ rfl rfl
    exact ks_wpAt_mono (h _ oL _ S' ⟨hdict, fun T hm hs => T.back hm hb hs⟩ (hA.deeper _)) (fun fl s' q => q) (fun _ _ q => q.elim)
end
/- Sq1 -/
set_option autoImplicit false
open PySem.Sre PySem.Builtin.Re
theorem step_done {m : Sre.M} (h : m.outcome.isSome = true) : m.step = m := by unfold Sre.M.step; rw [if_pos h]
theorem runFor_done : ∀ (n : Nat) {m : Sre.M}, m.outcome.isSome = true → m.runFor n = m
  | 0, _, _ => rfl
  | _ + 1, m, h => by unfold Sre.M.runFor; rw [if_pos h]
theorem runFor_succ (n : Nat) (m : Sre.M) : m.runFor (n + 1) = m.step.runFor n := by
  by_cases h : m.outcome.isSome = true
  · rw [runFor_done _ h, step_done h, runFor_done _ h]
  · show (if m.outcome.isSome = true then m else Sre.M.runFor n m.step) = _
    rw [if_neg h]
theorem runFor_add (a b : Nat) : ∀ m : Sre.M, m.runFor (a + b) = (m.runFor a).runFor b := by
  induction a with
  | zero => intro m; rw [Nat.zero_add]; rfl
  | succ a ih => intro m; rw [Nat.succ_add, runFor_succ, runFor_succ, ih]
section
variable {M : Model} {A : Around} {E : Value → Shared → Prop} {s : Shared}
theorem wp_drive {Q : Sre.M → Shared → Prop} {m' : Sre.M} (hm : m'.outcome.isSome = true) (hq : Q m' s) : ∀ (turns k : Nat) (m : Sre.M), k ≤ 4 * turns → 0 < turns → m.runFor k = m' → wpAny M A (reDrive turns m) Q E s
  | 0, _, _, _, h0, _ => absurd h0 (Nat.lt_irrefl _)
  | turns + 1, k, m, hk, _, e => by
    unfold reDrive
    by_cases h4 : k ≤ 4
    · have e4 : m.runFor reTurnSteps = m' := by
        have : reTurnSteps = k + (4 - k) := by show 4 = _; omega
        rw [this, runFor_add, e, runFor_done _ hm]
      show wpAny M A (if (m.runFor reTurnSteps).outcome.isSome = true then _ else _) Q E s
      rw [e4, if_pos hm]
      exact wpAny_pure hq
    · by_cases hd : (m.runFor reTurnSteps).outcome.isSome = true
      · have e4 : m.runFor reTurnSteps = m' := by
          have : k = reTurnSteps + (k - 4) := by show k = 4 + _; omega
          rw [this, runFor_add, runFor_done _ hd] at e
          exact e
        show wpAny M A (if (m.runFor reTurnSteps).outcome.isSome = true then _ else _) Q E s
        rw [e4, if_pos hm]
        exact wpAny_pure hq
      · show wpAny M A (if (m.runFor reTurnSteps).outcome.isSome = true then _ else _) Q E s
        rw [if_neg hd]
        refine wpAny_bind (wpAny_rule ?_)
        refine wp_drive hm hq turns (k - 4) _ (by omega) (by omega) ?_
        have : k = reTurnSteps + (k - 4) := by show k = 4 + _; omega
        rw [this, runFor_add] at e
        exact e
theorem wp_rules {f : Nat → PUnit → Sem (ForInStep PUnit)} {Q : PUnit → Shared → Prop} (hf : ∀ i (Q' : ForInStep PUnit → Shared → Prop), Q' (.yield ⟨⟩) s → wpAny M A (f i ⟨⟩) Q' E s) (hq : Q ⟨⟩ s) : ∀ l : List Nat, wpAny M A (forIn l PUnit.unit f) Q E s
  | [] => by rw [List.forIn_nil]; exact wpAny_pure hq
  | i :: l => by
    rw [List.forIn_cons]
    exact wpAny_bind (hf i _ (wp_rules hf hq l))
theorem wp_runToEnd {Q : Option Sre.M → Shared → Prop} {m m' : Sre.M} {k : Nat} (hk : k ≤ 1000000000) (e : m.runFor k = m') (ho : m'.outcome = some .matched ∧ Q (some m') s ∨ m'.outcome = some .failed ∧ Q none s) : wpAny M A (reRunToEnd m) Q E s := by
  unfold reRunToEnd
  have hm : m'.outcome.isSome = true := by rcases ho with ⟨h, _⟩ | ⟨h, _⟩ <;> rw [h] <;> rfl
  refine wpAny_bind (wp_drive hm ?_ (2 ^ 64) k m (by omega) (by decide) e)
  refine wpAny_bind (wp_rules (fun i Q' h => ?_) ?_ _)
  · split
    · exact wpAny_bind (wpAny_rule (wpAny_pure h))
    · exact wpAny_pure h
  rcases ho with ⟨h, q⟩ | ⟨h, q⟩
  · rw [h]; exact wpAny_pure q
  · rw [h]; exact wpAny_pure q
end
open PySem.Sre PySem.Builtin.Re
def C1 : Array Nat := #[14, 4, 0, 1, 1, 6, 1, 16, 46, 1]
def mk1 (text : Array Nat) (s : Nat) (f : Bool) (sn : Sre.Seen) : Sre.M :=
  { code := C1, text, lim := text.size, start := s, lastStart := text.size, pc := 5, pos := s, handed := s, outermost := f, marks := #[], frames := [{ wait := .nextStart, pc := 5, pos := s, outermost := f }], weight := 1, seen := sn }
def bol (text : Array Nat) (s : Nat) : Bool := s == 0 || text.getD (s - 1) 0 == 10
theorem s1a {text : Array Nat} {s : Nat} {f : Bool} {sn : Sre.Seen} (h : bol text s = true) : (mk1 text s f sn).step = { mk1 text s f ((sn.add 6).add 44) with pc := 7 } := by
  have e : (mk1 text s f sn).step = (if bol text s = true then { mk1 text s f ((sn.add 6).add 44) with pc := 7 } else { mk1 text s f ((sn.add 6).add 44) with answer := some false }) := by kernel_rfl
  rw [e, if_pos h]
theorem s1b {text : Array Nat} {s : Nat} {f : Bool} {sn : Sre.Seen} (h : bol text s = false) : (mk1 text s f sn).step = { mk1 text s f ((sn.add 6).add 44) with answer := some false } := by
  have e : (mk1 text s f sn).step = (if bol text s = true then { mk1 text s f ((sn.add 6).add 44) with pc := 7 } else { mk1 text s f ((sn.add 6).add 44) with answer := some false }) := by kernel_rfl
  rw [e, if_neg (by rw [h]; decide)]
theorem s1c {text : Array Nat} {s : Nat} {f : Bool} {sn : Sre.Seen} : ({ mk1 text s f sn with pc := 7 } : Sre.M).step = (if s ≥ text.size then { mk1 text s f (sn.add 16) with pc := 7, answer := some false } else if text.getD s 0 == 46 then { mk1 text s f (sn.add 16) with pc := 9, pos := s + 1 } else { mk1 text s f (sn.add 16) with pc := 7, answer := some false }) := by
  have e : ({ mk1 text s f sn with pc := 7 } : Sre.M).step = (if s ≥ text.size then { mk1 text s f (sn.add 16) with pc := 7, answer := some false } else match text.getD s 0 == 46 with | false => { mk1 text s f (sn.add 16) with pc := 7, answer := some false } | true => { mk1 text s f (sn.add 16) with pc := 9, pos := s + 1 }) := by kernel_rfl
  rw [e]
  split
  · rfl
  · cases text.getD s 0 == 46 <;> rfl
theorem s1d {text : Array Nat} {s : Nat} {f : Bool} {sn : Sre.Seen} : ({ mk1 text s f sn with pc := 9, pos := s + 1 } : Sre.M).step.step.step = { mk1 text s f (sn.add 1) with frames := [], weight := 0, pc := 5, pos := s, handed := s + 1, answer := some true, outcome := some .matched } := by cases f <;> kernel_rfl
theorem s1e {text : Array Nat} {s : Nat} {f : Bool} {sn : Sre.Seen} (pc : Nat) (h : s < text.size) : ({ mk1 text s f sn with pc := pc, answer := some false } : Sre.M).step = mk1 text (s + 1) false sn := by
  have e : ({ mk1 text s f sn with pc := pc, answer := some false } : Sre.M).step = (if s < text.size then mk1 text (s + 1) false sn else { mk1 text s f sn with frames := [], weight := 0, answer := some false }) := by kernel_rfl!
  rw [e, if_pos h]
theorem s1f {text : Array Nat} {s : Nat} {f : Bool} {sn : Sre.Seen} (pc : Nat) (h : ¬ s < text.size) : ({ mk1 text s f sn with pc := pc, answer := some false } : Sre.M).step.step = { mk1 text s f sn with frames := [], weight := 0, answer := some false, outcome := some .failed } := by
  have e : ({ mk1 text s f sn with pc := pc, answer := some false } : Sre.M).step = (if s < text.size then mk1 text (s + 1) false sn else { mk1 text s f sn with frames := [], weight := 0, answer := some false }) := by kernel_rfl!
  rw [e, if_neg h]
  kernel_rfl!
def find1 (text : Array Nat) : Nat → Nat → Option Nat
  | 0, _ => none
  | n + 1, s => if bol text s && text.getD s 0 == 46 then some s else find1 text n (s + 1)
def Ends (m : Sre.M) (r : Option (Nat × Nat)) : Prop := match r with
  | some (p, e) => m.outcome = some .matched ∧ m.start = p ∧ m.handed = e
  | none => m.outcome = some .failed
theorem rf (n : Nat) (m : Sre.M) : m.runFor (n + 1) = m.step.runFor n := runFor_succ n m
theorem search1 (text : Array Nat) : ∀ (n s : Nat) (f : Bool) (sn : Sre.Seen), text.size - s = n → s ≤ text.size → ∃ k, k ≤ 5 * (n + 1) ∧ Ends ((mk1 text s f sn).runFor k) ((find1 text n s).map fun p => (p, p + 1))
  | 0, s, f, sn, hn, hs => by
    have hlt : ¬ s < text.size := by omega
    cases hb : bol text s with
    | false =>
      refine ⟨3, by omega, ?_⟩
      rw [rf, s1b hb, rf, rf, s1f _ hlt]
      rfl
    | true =>
      refine ⟨4, by omega, ?_⟩
      rw [rf, s1a hb, rf, s1c, if_pos (by omega), rf, rf, s1f _ hlt]
      rfl
  | n + 1, s, f, sn, hn, hs => by
    have hlt : s < text.size := by omega
    cases hb : bol text s with
    | false =>
      obtain ⟨k, hk, he⟩ := search1 text n (s + 1) false ((sn.add 6).add 44) (by omega) (by omega)
      refine ⟨k + 1 + 1, by omega, ?_⟩
      rw [rf, s1b hb, rf, s1e _ hlt]
      unfold find1
      rw [hb]
      exact he
    | true =>
      cases hc : text.getD s 0 == 46 with
      | true =>
        refine ⟨5, by omega, ?_⟩
        rw [rf, s1a hb, rf, s1c, if_neg (by omega), if_pos hc, rf, rf, rf, s1d]
        unfold find1
        rw [hb, hc]
        exact ⟨rfl, rfl, rfl⟩
      | false =>
        obtain ⟨k, hk, he⟩ := search1 text n (s + 1) false (((sn.add 6).add 44).add 16) (by omega) (by omega)
        refine ⟨k + 1 + 1 + 1, by omega, ?_⟩
        rw [rf, s1a hb, rf, s1c, if_neg (by omega), if_neg (by rw [hc]; decide), rf, s1e _ hlt]
        unfold find1
        rw [hb, hc]
        exact he
/- Sq2 -/
set_option autoImplicit false
open PySem.Sre PySem.Builtin.Re
theorem forSearch1 (text : Array Nat) (s : Nat) (hs : s ≤ text.size) : ∃ k, k ≤ 5 * (text.size + 1) ∧ Ends ((Sre.forSearch C1 text 0 s text.size false).runFor k) ((find1 text (text.size - s) s).map fun p => (p, p + 1)) := by
  by_cases h : s < text.size
  · have e : Sre.forSearch C1 text 0 s text.size false = mk1 text s true (({} : Sre.Seen).add 14) := by
      have e' : Sre.forSearch C1 text 0 s text.size false = (if (decide (s > text.size) || decide (text.size - s < 1)) = true then ({ code := C1, text, lim := text.size, start := s, pc := 5, pos := s, handed := s, marks := #[], seen := ({} : Sre.Seen).add 14, answer := some false } : Sre.M) else mk1 text s true (({} : Sre.Seen).add 14)) := by kernel_rfl!
      rw [e', if_neg (by simp; omega)]
    obtain ⟨k, hk, he⟩ := search1 text (text.size - s) s true (({} : Sre.Seen).add 14) rfl hs
    exact ⟨k, by omega, e ▸ he⟩
  · have e : Sre.forSearch C1 text 0 s text.size false = { code := C1, text, lim := text.size, start := s, pc := 5, pos := s, handed := s, marks := #[], seen := ({} : Sre.Seen).add 14, answer := some false } := by
      have e' : Sre.forSearch C1 text 0 s text.size false = (if (decide (s > text.size) || decide (text.size - s < 1)) = true then ({ code := C1, text, lim := text.size, start := s, pc := 5, pos := s, handed := s, marks := #[], seen := ({} : Sre.Seen).add 14, answer := some false } : Sre.M) else mk1 text s true (({} : Sre.Seen).add 14)) := by kernel_rfl!
      rw [e', if_pos (by simp; omega)]
    refine ⟨1, by omega, ?_⟩
    rw [e, show text.size - s = 0 by omega]
    rfl
def C2 : Array Nat := #[14, 9, 4, 1, 2, 16, 10, 16, 13, 0, 7, 7, 16, 13, 16, 10, 15, 18, 5, 16, 10, 15, 13, 11, 16, 13, 5, 5, 0, 16, 10, 1, 15, 2, 0, 1]
def r2 (text : Array Nat) (p pc pos : Nat) (ans : Option Bool) (frs : List Sre.Frame) (w : Nat) (sn : Sre.Seen) (f : Bool) : Sre.M :=
  { code := C2, text, lim := text.size, start := p, lastStart := text.size, pc, pos, handed := p, outermost := f, marks := #[], frames := frs, weight := w, answer := ans, seen := sn }
def fS (p : Nat) : Sre.Frame := { wait := .nextStart, pc := 10, pos := p, outermost := true }
def fB (alt p : Nat) : Sre.Frame := { wait := .nextBranch, pc := alt, pos := p, outermost := true, kept := { lastmark := -1, lastindex := -1, whole := false, marks := #[] } }
section
variable {text : Array Nat} {p : Nat} {sn : Sre.Seen}
theorem t0 : (r2 text p 10 p none [fS p] 1 sn true).step = r2 text p 12 p none [fB 11 p, fS p] 2 (sn.add 7) true := by kernel_rfl!
/-- a letter's step -/
theorem lit_step (m : Sre.M) (c : Nat) (h0 : m.outcome = none) (h1 : m.answer = none) (hp : m.pc < m.code.size) (ho : m.code.getD m.pc 0 = 16) (hc : m.code.getD (m.pc + 1) 0 = c) :
    m.step = (if m.pos ≥ m.lim then { m with seen := m.seen.add 16, answer := some false } else if m.text.getD m.pos 0 == c then { m with seen := m.seen.add 16, pc := m.pc + 2, pos := m.pos + 1 } else { m with seen := m.seen.add 16, answer := some false }) := by
  have w0 : m.word 0 = 16 := ho
  have hop : ops[(16 : Nat)]? = some Op.LITERAL := rfl
  have e : m.step = m.exec := by
    unfold Sre.M.step
    rw [h0, h1, if_neg (by decide), if_pos hp]
  rw [e]
  unfold Sre.M.exec
  rw [w0, hop]
  dsimp only
  have ha : ∀ x sn, accepts m.code m.pc x sn = .ok (x == c, sn) := by
    intro x sn
    unfold accepts
    rw [ho, hop, hc]
  have hw : itemWidth m.code m.pc = 2 := by
    unfold itemWidth
    rw [ho, hop]
  split
  · rfl
  · rw [ha]
    cases m.text.getD m.pos 0 == c
    · rfl
    · rw [hw]; rfl
theorem t1 (pc pos c : Nat) (frs : List Sre.Frame) (w : Nat) (f : Bool) (hp : pc < 36) (ho : C2.getD pc 0 = 16) (hc : C2.getD (pc + 1) 0 = c) : (r2 text p pc pos none frs w sn f).step =
    (if pos ≥ text.size then r2 text p pc pos (some false) frs w (sn.add 16) f else if text.getD pos 0 == c then r2 text p (pc + 2) (pos + 1) none frs w (sn.add 16) f else r2 text p pc pos (some false) frs w (sn.add 16) f) := by
  rw [lit_step (r2 text p pc pos none frs w sn f) c rfl rfl hp ho hc]
  rfl
theorem t2 (pc pos : Nat) (f : Bool) : (r2 text p pc pos (some false) [fB 11 p, fS p] 2 sn f).step = r2 text p 19 p none [fB 18 p, fS p] 2 sn true := by kernel_rfl!
theorem t3 (pc pos : Nat) (f : Bool) : (r2 text p pc pos (some false) [fB 18 p, fS p] 2 sn f).step = r2 text p 24 p none [fB 23 p, fS p] 2 sn true := by kernel_rfl!
theorem t4 (pos : Nat) (frs : List Sre.Frame) (w : Nat) : (r2 text p 16 pos none frs w sn true).step = r2 text p 35 pos none frs w (sn.add 15) true := by kernel_rfl!
theorem t5 (pos : Nat) (frs : List Sre.Frame) (w : Nat) : (r2 text p 21 pos none frs w sn true).step = r2 text p 35 pos none frs w (sn.add 15) true := by kernel_rfl!
theorem t6 (pos : Nat) (frs : List Sre.Frame) (w : Nat) : (r2 text p 32 pos none frs w sn true).step = r2 text p 35 pos none frs w (sn.add 15) true := by kernel_rfl!
theorem t7 (pos alt : Nat) : Ends ((r2 text p 35 pos none [fB alt p, fS p] 2 sn true).step.step.step.step) (some (p, pos)) := by
  have e : (r2 text p 35 pos none [fB alt p, fS p] 2 sn true).step.step.step.step = { r2 text p 10 p (some true) [] 0 (sn.add 1) true with handed := pos, outcome := some .matched } := by kernel_rfl!
  rw [e]
  exact ⟨rfl, rfl, rfl⟩
theorem t8 (pos : Nat) : (r2 text p 26 pos none [fB 23 p, fS p] 2 sn true).step = { r2 text p 29 pos none [{ wait := .lookNot, pc := 26, pos := pos, outermost := true, kept := { lastmark := -1, lastindex := -1, whole := false, marks := #[] } }, fB 23 p, fS p] 3 (sn.add 5) false with handed := pos } := by kernel_rfl!
def r3 (text : Array Nat) (p pc pos : Nat) (ans : Option Bool) (frs : List Sre.Frame) (w : Nat) (sn : Sre.Seen) (f : Bool) (h : Nat) : Sre.M := { r2 text p pc pos ans frs w sn f with handed := h }
def fL (pos : Nat) : Sre.Frame := { wait := .lookNot, pc := 26, pos := pos, outermost := true, kept := { lastmark := -1, lastindex := -1, whole := false, marks := #[] } }
theorem t8' (pos : Nat) : (r2 text p 26 pos none [fB 23 p, fS p] 2 sn true).step = r3 text p 29 pos none [fL pos, fB 23 p, fS p] 3 (sn.add 5) false pos := t8 pos
theorem t9 (pos h : Nat) (hx : (text.size ≤ pos) ∨ (text.getD pos 0 == 10) = false) : (r3 text p 29 pos none [fL pos, fB 23 p, fS p] 3 sn false h).step = r3 text p 29 pos (some false) [fL pos, fB 23 p, fS p] 3 (sn.add 16) false h := by
  have e : (r3 text p 29 pos none [fL pos, fB 23 p, fS p] 3 sn false h).step = (if pos ≥ text.size then r3 text p 29 pos (some false) [fL pos, fB 23 p, fS p] 3 (sn.add 16) false h else if text.getD pos 0 == 10 then r3 text p 31 (pos + 1) none [fL pos, fB 23 p, fS p] 3 (sn.add 16) false h else r3 text p 29 pos (some false) [fL pos, fB 23 p, fS p] 3 (sn.add 16) false h) := by
    rw [lit_step (r3 text p 29 pos none [fL pos, fB 23 p, fS p] 3 sn false h) 10 rfl rfl (show (29 : Nat) < C2.size by decide) rfl rfl]
    rfl
  rw [e]
  rcases hx with hx | hx
  · rw [if_pos hx]
  · split
    · rfl
    · rw [if_neg (by rw [hx]; decide)]
theorem t10 (pos h : Nat) : (r3 text p 29 pos (some false) [fL pos, fB 23 p, fS p] 3 sn false h).step = r3 text p 32 pos none [fB 23 p, fS p] 2 sn true h := by kernel_rfl!
theorem t11 (pos h : Nat) : (r3 text p 32 pos none [fB 23 p, fS p] 2 sn true h).step = r3 text p 35 pos none [fB 23 p, fS p] 2 (sn.add 15) true h := by kernel_rfl!
theorem t12 (pos h : Nat) : Ends ((r3 text p 35 pos none [fB 23 p, fS p] 2 sn true h).step.step.step.step) (some (p, pos)) := by
  have e : (r3 text p 35 pos none [fB 23 p, fS p] 2 sn true h).step.step.step.step = { r2 text p 10 p (some true) [] 0 (sn.add 1) true with handed := pos, outcome := some .matched } := by kernel_rfl!
  rw [e]
  exact ⟨rfl, rfl, rfl⟩
def end2 (text : Array Nat) (p : Nat) : Nat := if text.getD p 0 == 13 && (decide (p + 1 < text.size) && text.getD (p + 1) 0 == 10) then p + 2 else p + 1
theorem run2 (hp : p < text.size) (hc : text.getD p 0 = 10 ∨ text.getD p 0 = 13) : ∃ k, k ≤ 20 ∧ Ends ((r2 text p 10 p none [fS p] 1 sn true).runFor k) (some (p, end2 text p)) := by
  have hnp : ¬ p ≥ text.size := by omega
  rcases hc with hc | hc
  · have e13 : (text.getD p 0 == 13) = false := by rw [hc]; decide
    have e10 : (text.getD p 0 == 10) = true := by rw [hc]; decide
    refine ⟨9, by omega, ?_⟩
    rw [rf, t0, rf, t1 12 p 13 _ _ _ (by decide) (by rfl) (by rfl), if_neg hnp, if_neg (by rw [e13]; decide), rf, t2, rf, t1 19 p 10 _ _ _ (by decide) (by rfl) (by rfl), if_neg hnp, if_pos e10, rf, t5, rf, rf, rf, rf]
    have ee : end2 text p = p + 1 := by unfold end2; rw [e13]; rfl
    rw [ee]
    exact t7 (p + 1) 18
  · have e13 : (text.getD p 0 == 13) = true := by rw [hc]; decide
    have e10 : (text.getD p 0 == 10) = false := by rw [hc]; decide
    cases hn : (decide (p + 1 < text.size) && text.getD (p + 1) 0 == 10) with
    | true =>
      obtain ⟨h1, h2⟩ := Bool.and_eq_true_iff.mp hn
      have h1 : p + 1 < text.size := of_decide_eq_true h1
      refine ⟨8, by omega, ?_⟩
      rw [rf, t0, rf, t1 12 p 13 _ _ _ (by decide) (by rfl) (by rfl), if_neg hnp, if_pos e13, rf, t1 14 (p + 1) 10 _ _ _ (by decide) (by rfl) (by rfl), if_neg (by omega), if_pos h2, rf, t4, rf, rf, rf, rf]
      have ee : end2 text p = p + 1 + 1 := by unfold end2; rw [e13, hn]; rfl
      rw [ee]
      exact t7 (p + 1 + 1) 11
    | false =>
      have hx : text.size ≤ p + 1 ∨ (text.getD (p + 1) 0 == 10) = false := by
        rcases Bool.and_eq_false_iff.mp hn with h | h
        · exact .inl (by have := of_decide_eq_false h; omega)
        · exact .inr h
      have ee : end2 text p = p + 1 := by unfold end2; rw [e13, hn]; rfl
      rw [ee]
      have l2 : ∀ sn, (r2 text p 14 (p + 1) none [fB 11 p, fS p] 2 sn true).step = r2 text p 14 (p + 1) (some false) [fB 11 p, fS p] 2 (sn.add 16) true := by
        intro sn
        rw [t1 14 (p + 1) 10 _ _ _ (by decide) (by rfl) (by rfl)]
        rcases hx with hx | hx
        · rw [if_pos hx]
        · split
          · rfl
          · rw [if_neg (by rw [hx]; decide)]
      refine ⟨15, by omega, ?_⟩
      rw [rf, t0, rf, t1 12 p 13 _ _ _ (by decide) (by rfl) (by rfl), if_neg hnp, if_pos e13, rf, l2, rf, t2, rf, t1 19 p 10 _ _ _ (by decide) (by rfl) (by rfl), if_neg hnp, if_neg (by rw [e10]; decide), rf, t3, rf, t1 24 p 13 _ _ _ (by decide) (by rfl) (by rfl), if_neg hnp, if_pos e13,
        rf, t8', rf, t9 _ _ hx, rf, t10, rf, t11, rf, rf, rf, rf]
      exact t12 (p + 1) (p + 1)
def find2 (text : Array Nat) : Nat → Nat → Option Nat
  | 0, _ => none
  | n + 1, s => if text.getD s 0 == 10 || text.getD s 0 == 13 then some s else find2 text n (s + 1)
theorem inSet2 (c : Nat) (sn : Sre.Seen) : ∃ sn', inSet C2 c C2.size 5 true sn = .ok (c == 10 || c == 13, sn') := by
  by_cases h1 : c = 10
  · subst h1; exact ⟨sn.add 16, by kernel_rfl⟩
  · by_cases h2 : c = 13
    · subst h2; exact ⟨(sn.add 16).add 16, by kernel_rfl⟩
    · have e : inSet C2 c C2.size 5 true sn = (if (c == 10) = true then .ok (true, sn.add 16) else if (c == 13) = true then .ok (true, (sn.add 16).add 16) else .ok (false, ((sn.add 16).add 16).add 0)) := by kernel_rfl
      have b1 : (c == 10) = false := beq_eq_false_iff_ne.mpr h1
      have b2 : (c == 13) = false := beq_eq_false_iff_ne.mpr h2
      refine ⟨((sn.add 16).add 16).add 0, ?_⟩
      rw [e, b1, b2]
      rfl
theorem adm2 (m : Sre.M) (hm : m.code = C2) (ht : m.text = text) (hl : m.lim = text.size) : ∀ (n s fuel : Nat) (sn : Sre.Seen), text.size - s = n → n < fuel → ∃ sn', m.admitted fuel s sn = .ok (find2 text n s, sn')
  | 0, s, fuel + 1, sn, hn, _ => ⟨sn, by unfold Sre.M.admitted; rw [if_pos (by omega)]; rfl⟩
  | n + 1, s, fuel + 1, sn, hn, hf => by
    obtain ⟨sn1, e1⟩ := inSet2 (text.getD s 0) sn
    unfold Sre.M.admitted find2
    rw [if_neg (by omega), hm, ht, e1]
    cases hb : (text.getD s 0 == 10 || text.getD s 0 == 13) with
    | true => exact ⟨sn1, rfl⟩
    | false => exact adm2 m hm ht hl n (s + 1) fuel sn1 (by omega) (by omega)
theorem find2_at : ∀ (n s q : Nat), text.size - s = n → find2 text n s = some q → q < text.size ∧ (text.getD q 0 = 10 ∨ text.getD q 0 = 13)
  | 0, _, _, _, h => nomatch h
  | n + 1, s, q, hn, h => by
    unfold find2 at h
    split at h
    · rename_i hb
      cases h
      refine ⟨by omega, ?_⟩
      rcases Bool.or_eq_true_iff.mp hb with h | h
      · exact .inl (beq_iff_eq.mp h)
      · exact .inr (beq_iff_eq.mp h)
    · exact find2_at n (s + 1) q (by omega) h
def f2 (text : Array Nat) (s : Nat) (sn : Sre.Seen) : Sre.M := { code := C2, text, lim := text.size, start := s, lastStart := text.size, pc := 10, pos := s, handed := s, marks := #[], seen := sn }
theorem from2 (s : Nat) (sn : Sre.Seen) (hs : s < text.size) : ∃ k, k ≤ 20 ∧ Ends (((f2 text s sn).attemptFrom s true).runFor k) ((find2 text (text.size - s) s).map fun q => (q, end2 text q)) := by
  obtain ⟨sn', e⟩ := adm2 (text := text) (f2 text s sn) rfl rfl rfl (text.size - s) s (text.size + 1 - s) sn rfl (by omega)
  have e0 : (f2 text s sn).attemptFrom s true = (match (f2 text s sn).admitted (text.size + 1 - s) s sn with
    | .ok (some q, sn) => ({ f2 text s sn with mustAdvance := false } : Sre.M).attemptAt q true
    | .ok (none, sn) => (f2 text s sn).say false
    | .error why => (f2 text s sn).stick why) := rfl
  rw [e0, e]
  cases hf : find2 text (text.size - s) s with
  | none => exact ⟨1, by omega, rfl⟩
  | some q =>
    obtain ⟨hq, hc⟩ := find2_at _ _ _ rfl hf
    exact run2 (sn := sn') hq hc
theorem forSearch2 (s : Nat) (hs : s ≤ text.size) : ∃ k, k ≤ 20 ∧ Ends ((Sre.forSearch C2 text 0 s text.size false).runFor k) ((find2 text (text.size - s) s).map fun q => (q, end2 text q)) := by
  have e' : Sre.forSearch C2 text 0 s text.size false = (if (decide (s > text.size) || decide (text.size - s < 1)) = true then ({ code := C2, text, lim := text.size, start := s, pc := 10, pos := s, handed := s, marks := #[], seen := ({} : Sre.Seen).add 14, answer := some false } : Sre.M) else (f2 text s (({} : Sre.Seen).add 14)).attemptFrom s true) := by kernel_rfl!
  by_cases h : s < text.size
  · rw [e', if_neg (by simp; omega)]
    exact from2 s _ h
  · rw [e', if_pos (by simp; omega)]
    refine ⟨1, by omega, ?_⟩
    rw [show text.size - s = 0 by omega]
    rfl
end
/- Fw23 -/
set_option autoImplicit false
open PySem.Builtin.Re
/-- a pattern of the text, and what its search finds -/
structure PatOk (c : Cx) (pat : Addr) (find : Array Nat → Nat → Option (Nat × Nat)) : Prop where
  rec_ : ∃ fs ca items n code, c.K.lookup pat = some { cls := .type "re.Pattern", data := .fields fs } ∧ fs.getD 5 .none = .ref ca ∧ c.K.lookup ca = some { cls := .type "tuple", data := .seq items n } ∧ fs.getD 6 .none = .int 0 0 ∧ fs.getD 2 .none = .int 0 0 ∧
    (items.map reRawOf).map (·.toNat) = code ∧ ∀ (text : Array Nat) (s : Nat), s ≤ text.size → ∃ k, k ≤ 5 * (text.size + 20) ∧ Ends ((Sre.forSearch code text 0 s text.size false).runFor k) (find text s)
  ok : ∀ (text : Array Nat) (s p e : Nat), s ≤ text.size → find text s = some (p, e) → s ≤ p ∧ p < e ∧ e ≤ text.size
def subPieces (find : Array Nat → Nat → Option (Nat × Nat)) (r : Str) (text : Array Nat) : Nat → Nat → List Str
  | 0, _ => []
  | fuel + 1, pos => match find text pos with
    | some (p, e) => (if pos < p then [⟨text.extract pos p⟩] else []) ++ [r] ++ subPieces find r text fuel e
    | none => if pos < text.size then [⟨text.extract pos text.size⟩] else []
section
variable {c : Cx} {L : Addr} {m : Loc} {mu led : List (Addr × Obj)} {s : Shared} {A : Around} {E : Value → Shared → Prop} {R : Result → Shared → Prop} {d : Nat} {find : Array Nat → Nat → Option (Nat × Nat)}
theorem wp_target {pat : Addr} {x : Str} {t : Tok} {Q : ReTarget → Shared → Prop} (P : PatOk c pat find) (X : c.K.In s.heap)
    (h : ∀ code, (∀ (text : Array Nat) (s : Nat), s ≤ text.size → ∃ k, k ≤ 5 * (text.size + 20) ∧ Ends ((Sre.forSearch code text 0 s text.size false).runFor k) (find text s)) → Q { pattern := .ref pat, string := .str x t, code := code, text := x.cps, kind := 0, groups := 0, pos := 0, lim := x.cps.size } s) : wpAny c.M A (reWholeTarget (.ref pat) (.str x t)) Q E s := by
  obtain ⟨fs, ca, items, n, code, hp, h5, hca, h6, h2, hcode, hs⟩ := P.rec_
  unfold reWholeTarget fieldsOf
  refine wpAny_bind (wpAny_bind (wpAny_load (X _ _ hp) (wpAny_pure ?_)))
  refine wpAny_bind (wpAny_of_eq (a := (x.cps, 0)) rfl ?_)
  rw [h6]
  refine KFB.if_not rfl ?_
  refine KFB.if_not rfl ?_
  refine wpAny_bind (wpAny_of_eq (a := ()) rfl ?_)
  rw [h5]
  unfold reRawItems seqItems?
  refine wpAny_bind (wpAny_bind (wpAny_bind (wpAny_load (X _ _ hca) (wpAny_pure (wpAny_pure ?_)))))
  refine wpAny_pure ?_
  have := h code hs
  rw [h2, Option.getD_some, hcode]
  exact this
theorem en_subloop : entryFor table "re.Pattern.sub.loop" = some Builtin.«re.Pattern.sub.loop» := entryFor_of_tree (by kernel_rfl)
theorem qt_subloop (a : Args) : (Code.builtin "re.Pattern.sub.loop" a).quiet = true := Code.quiet_builtin _ (by decide +kernel)
theorem pl_subloop : plainId "re.Pattern.sub.loop" = true := by decide +kernel
theorem AOk.of_in1 {A : Around} (h : A.handled = none) : A.in1.handled = none := h
theorem r_pushVal {pl : Addr} {ls : List (Str × Tok)} {nl : Nat} {x : Str} {t : Tok} {Q : PUnit → Shared → Prop} (S : At c L m ((pl, W.listOf (strValues ls).toArray nl) :: mu) led s) (hz : ls.length ≤ 1000000)
    (h : ∀ s', At c L m ((pl, W.listOf (strValues (ls ++ [(x, t)])).toArray (nl + 1)) :: mu) led s' → Q ⟨⟩ s') : wpAny c.M A (updateSeq pl (·.push (.str x t))) Q E s := by
  have hg := S.muGet (.head _)
  refine wpAny_updateSeq hg rfl ?_ (hz := le_sz (by simp [strValues]; omega)) (_hz' := Nat.le_succ_of_le (le_sz (by simp [strValues]; omega)))
  refine h _ (S.upd .head ?_ rfl)
  rw [strValues_snoc]
  simp [Obj.mapSeq]
theorem post_joinK {s : Shared} {sep : Str} {Q : Value → Shared → Prop} : ∀ (l : List (Str × Tok)), ((Txt.join sep (l.map (·.1))).length ≤ sizeLine ∧ ∀ t' k, s.toks ≤ k → Q (.str (Txt.join sep (l.map (·.1))) t') { s with toks := k }) → (joinMade sep l).post Q s
  | [], h => ⟨h.1, h.2 _ _ (Nat.le_succ _)⟩
  | [p], h => h.2 p.2 s.toks (Nat.le_refl _)
  | _ :: _ :: _, h => ⟨h.1, h.2 _ _ (Nat.le_succ _)⟩
theorem join_tk {prog : Program} {w : World} {A : Around} {E : Value → Shared → Prop} {s : Shared} {x : Str} {t : Tok} {Q : Value → Shared → Prop} {D : Addr} {l : List (Str × Tok)} {texts : List Str} (hl : s.heap.IsList D (strValues l).toArray) (ht : l.map (·.1) = texts) (hok : JoinOk x texts = true)
    (hq : ∀ t' k, s.toks ≤ k → Q (.str (Txt.join x texts) t') { s with toks := k }) : wpAny (model prog w) A (call (.builtin "str.join") [.str x t, .ref D]) Q E s := by
  subst ht
  unfold JoinOk at hok
  rw [Bool.not_eq_true'] at hok
  exact call_meets F.slot_str_join (typeIs_str _ _ _) F.entry_str_join (F.args_str_join_2 _ _) (meets_str_join_list x t D l hok) ⟨hl, post_joinK l ⟨joinFit_length hok, hq⟩⟩
theorem sub_loop {pat pl : Addr} {x r : Str} {tx tr : Tok} (P : PatOk c pat find) (hx : x.cps.size ≤ 100000) (hr : r.length ≤ 100) : ∀ (fuel pos : Nat) (n : Int) (ls : List (Str × Tok)) (nl : Nat) (s : Shared), x.cps.size - pos < fuel → pos ≤ x.cps.size → ls.length + 3 * (x.cps.size - pos) ≤ 400000 →
    ((ls.map (·.1)).map (·.length)).sum + 102 * (x.cps.size - pos) ≤ 16000000 →
    At c L m ((pl, W.listOf (strValues ls).toArray nl) :: mu) led s → (∀ t' s', 0 < s'.toks → At c L m mu led s' → R (.ok (.ret (.str (Str.join "" (ls.map (·.1) ++ subPieces find r x.cps fuel pos)) t'))) s') →
    codeAny c.M A (.builtin "re.Pattern.sub.loop" ⟨[.ref pat, .str x tx, .str r tr, rawInt 0, rawInt 0, rawInt n, rawInt pos, rawInt pos, .bool false, .ref pl, .bool false], []⟩) R s
  | 0, _, _, _, _, _, hf, _, _, _, _, _ => absurd hf (Nat.not_lt_zero _)
  | fuel + 1, pos, n, ls, nl, s, hf, hpos, hcnt, hsum, S, h => by
    refine codeAny_builtin en_subloop ?_
    rw [Around.under_plainId pl_subloop _]
    unfold Builtin.«re.Pattern.sub.loop»
    refine wpAny_bind (wp_target P S.inK fun code hs => ?_)
    obtain ⟨k, hk, he⟩ := hs x.cps pos hpos
    refine wpAny_bind (wpAny_of_eq (a := ()) rfl ?_)
    dsimp only
    refine wpAny_bind ?_
    refine KFB.if_not rfl ?_
    unfold reNextFound
    show wpAny _ _ (reRunToEnd (Sre.forSearch code x.cps 0 pos x.cps.size false)) _ _ _
    refine wp_runToEnd (k := k) (by omega) rfl ?_
    generalize hm' : (Sre.forSearch code x.cps 0 pos x.cps.size false).runFor k = m' at he ⊢
    cases hfd : find x.cps pos with
    | none =>
      rw [hfd] at he
      refine .inr ⟨he, ?_⟩
      dsimp only
      rw [Int.toNat_natCast]
      have fin : ∀ (ls' : List (Str × Tok)) (nl' : Nat) (s1 : Shared), ls'.map (·.1) = ls.map (·.1) ++ subPieces find r x.cps (fuel + 1) pos → ls'.length ≤ ls.length + 1 → ((ls'.map (·.1)).map (·.length)).sum ≤ 16000000 → At c L m ((pl, W.listOf (strValues ls').toArray nl') :: mu) led s1 →
          wpAny c.M A.in1 (reSlice x.cps 0 0 0 >>= fun joiner => seqItems? (.ref pl) >>= fun its => if (its.getD #[]).isEmpty = true then (pure joiner >>= fun text => ret text) else (call (.builtin "str.join") [joiner, .ref pl] >>= fun text => ret text)) (fun fin s' => match fin with | .done f => R (.ok f) s' | .again c' => c'.quiet = true ∧ codeAny c.M A c' R s') (fun e s' => R (.error e) s') s1 := by
        intro ls' nl' s1 el hl hs1 S1
        refine wpAny_bind ?_
        show wpAny c.M A.in1 (mkStr ⟨x.cps.extract 0 0⟩) _ _ _
        have ex : (⟨x.cps.extract 0 0⟩ : Str) = ("" : Str) := by simp; rfl
        rw [ex]
        refine wpAny_mkStr ?_ (by decide +kernel)
        have S2 := S1.toks (s1.toks + 1)
        have hg := S2.muGet (.head _)
        refine wpAny_bind (wpAny_seqItems hg rfl ?_)
        rw [Option.getD_some]
        cases hls : ls' with
        | nil =>
          refine KFB.if_so (by rw [← hls]; simp [strValues, hls]) ?_
          refine wpAny_bind (wpAny_pure ?_)
          refine wpAny_pure ?_
          have := h s1.toks _ (Nat.succ_pos _) S2.muTail
          rw [← el, hls] at this
          exact this
        | cons q ls2 =>
          refine KFB.if_not (by simp [strValues]) ?_
          refine wpAny_bind ?_
          refine join_tk (l := ls') ⟨_, hg, rfl, _, rfl⟩ rfl (joinOk_of ?_) fun t' k' hk' => ?_
          · have : ("" : Str).length = 0 := by decide +kernel
            rw [this]
            omega
          · refine wpAny_pure ?_
            have e3 : Txt.join "" (ls'.map (·.1)) = Str.join "" (ls'.map (·.1)) := StrLaws.glued_eq_join _ _
            have := h t' _ (Nat.lt_of_lt_of_le (Nat.succ_pos _) hk') (S2.muTail.toks k')
            rw [← el, ← e3] at this
            exact this
      by_cases hlt : pos < x.cps.size
      · rw [if_pos hlt]
        refine wpAny_bind ?_
        show wpAny c.M A.in1 (mkStr ⟨x.cps.extract pos x.cps.size⟩) _ _ _
        have hlen : (x.cps.extract pos x.cps.size).size = x.cps.size - pos := by rw [Array.size_extract]; omega
        refine wpAny_mkStr ?_ (le_sz (by show (x.cps.extract pos x.cps.size).size ≤ _; omega))
        refine wpAny_bind (r_pushVal (S.toks _) (by omega) fun s2 S2 => ?_)
        refine fin _ _ _ ?_ (by simp) ?_ S2
        · simp [subPieces, hfd, hlt]
        · simp only [List.map_append, List.map_cons, List.map_nil, List.sum_append, List.sum_cons, List.sum_nil]
          show _ + ((x.cps.extract pos x.cps.size).size + 0) ≤ _
          omega
      · rw [if_neg hlt]
        refine fin ls nl s ?_ (by omega) (by omega) S
        simp [subPieces, hfd, hlt]
    | some pe =>
      obtain ⟨p, e⟩ := pe
      rw [hfd] at he
      obtain ⟨h1, h2, h3⟩ := he
      obtain ⟨g1, g2, g3⟩ := P.ok _ _ _ _ hpos hfd
      refine .inl ⟨h1, ?_⟩
      dsimp only
      rw [h2, h3, Int.toNat_natCast]
      have hep : (e == p) = false := beq_eq_false_iff_ne.mpr (by omega)
      by_cases hlt : pos < p
      · rw [if_pos hlt]
        refine wpAny_bind ?_
        show wpAny c.M A.in1 (mkStr ⟨x.cps.extract pos p⟩) _ _ _
        have hlen : (x.cps.extract pos p).size = p - pos := by rw [Array.size_extract]; omega
        refine wpAny_mkStr ?_ (le_sz (by show (x.cps.extract pos p).size ≤ _; omega))
        refine wpAny_bind (r_pushVal (S.toks _) (by omega) fun s2 S2 => ?_)
        refine KFB.if_so rfl ?_
        refine wpAny_bind (wpAny_pure ?_)
        refine KFB.if_so rfl ?_
        refine wpAny_bind (r_pushVal S2 (by simp; omega) fun s3 S3 => ?_)
        rw [hep]
        refine wpAny_pure ⟨qt_subloop _, ?_⟩
        refine sub_loop P hx hr fuel e (n + 1) _ _ s3 (by omega) g3 (by simp; omega) ?_ S3 fun t' s' htk S' => ?_
        · simp only [List.map_append, List.map_cons, List.map_nil, List.sum_append, List.sum_cons, List.sum_nil]
          show _ + ((x.cps.extract pos p).size + 0) + (r.length + 0) + _ ≤ _
          omega
        · have := h t' s' htk S'
          simp only [subPieces, hfd, if_pos hlt] at this
          simpa using this
      · rw [if_neg hlt]
        refine KFB.if_so rfl ?_
        refine wpAny_bind (wpAny_pure ?_)
        refine KFB.if_so rfl ?_
        refine wpAny_bind (r_pushVal S (by omega) fun s3 S3 => ?_)
        rw [hep]
        refine wpAny_pure ⟨qt_subloop _, ?_⟩
        refine sub_loop P hx hr fuel e (n + 1) _ _ s3 (by omega) g3 (by simp; omega) ?_ S3 fun t' s' htk S' => ?_
        · simp only [List.map_append, List.map_cons, List.map_nil, List.sum_append, List.sum_cons, List.sum_nil]
          omega
        · have := h t' s' htk S'
          simp only [subPieces, hfd, if_neg hlt] at this
          simpa using this
end
/- Fw24 -/
set_option autoImplicit false
open PySem.Builtin.Re
section
variable {c : Cx} {L : Addr} {m : Loc} {mu led : List (Addr × Obj)} {s : Shared} {A : Around} {E : Value → Shared → Prop} {Q : Value → Shared → Prop} {d : Nat} {find : Array Nat → Nat → Option (Nat × Nat)}
theorem sb_split : splitId "re.Pattern.sub" = some ("re.Pattern", "sub") := by decide +kernel
theorem sb_kind : builtinKind "re.Pattern.sub" = some .method := by decide +kernel
theorem sb_plain : plainId "re.Pattern.sub" = true := by decide +kernel
theorem sb_entry : entryFor table "re.Pattern.sub" = some Builtin.«re.Pattern.sub» := entryFor_of_tree (by kernel_rfl)
theorem sb_args (a b d : Value) : argsOk "re.Pattern.sub" ⟨[a, b, d], []⟩ := by unfold argsOk; kernel_rfl
theorem sb_named (r x : Value) : reNamed "re.Pattern.sub" "sub" ["repl", "string", "count"] 2 [r, x] [] = pure [some r, some x, none] := by kernel_rfl!
theorem st_nocall : typeLookup (.type "str") "__call__" = pure none := by rw [typeLookup_type, builtinLookup_eq_fast]; kernel_rfl
theorem pt_isI : isSubtype (.type "re.Pattern") (.type "re.Pattern") = pure true := by rw [isSubtype_type]; kernel_rfl
theorem r_sub1 {pat : Addr} {x r : Str} {tx tr : Tok} (S : At c L m mu led s) (P : PatOk c pat find) (hx : x.cps.size ≤ 100000) (hr : r.length ≤ 100) (hlit : r.cps.contains 92 = false)
    (h : ∀ t' s', 0 < s'.toks → At c L m mu led s' → Q (.str (Str.join "" (subPieces find r x.cps (x.cps.size + 1) 0)) t') s') : wpAny c.M A (call (.builtin "re.Pattern.sub") [.ref pat, .str r tr, .str x tx]) Q E s := by
  obtain ⟨fs, ca, items, n, code, hp, hrest⟩ := P.rec_
  have hI : Looks c.M s.heap (isInstance (.ref pat) (.type "re.Pattern")) true := (looks_ref (S.top hp) rfl).andThen (Looks.of_pure pt_isI)
  refine wpAny_call (codeAny_call_builtin sb_plain sb_entry ?_)
  have go : wpAny c.M A.in1 (Builtin.«re.Pattern.sub» ⟨[.ref pat, .str r tr, .str x tx], []⟩) (fun fin s' => match fin with
      | .done f => (match (Except.ok f : Result) with | .ok (.ret v) => Q v s' | .ok _ => False | .error e => E e s')
      | .again c' => c'.quiet = true ∧ codeAny c.M A c' (fun r s' => match r with | .ok (.ret v) => Q v s' | .ok _ => False | .error e => E e s') s') E s := by
    unfold Builtin.«re.Pattern.sub» reSubstitute
    dsimp only
    rw [sb_named]
    refine wpAny_bind (wpAny_pure ?_)
    refine wpAny_bind (wpAny_pure ?_)
    refine wpAny_bind (wpAny_specialOf (typeIs_str _ _ _) st_nocall ?_)
    refine KFB.if_not rfl ?_
    refine wpAny_bind (wpAny_of_eq (a := some r) rfl ?_)
    dsimp only
    refine wpAny_bind (wpAny_pure ?_)
    refine KFB.if_not rfl ?_
    refine KFB.if_so (by rw [hlit]; rfl) ?_
    refine wpAny_bind (wpAny_pure ?_)
    refine wpAny_bind (wpAny_holding (wp_target P S.inK fun code' _ => ?_))
    refine KFB.if_not rfl ?_
    refine wpAny_bind (r_newList S ?_ (by kernel_rfl))
    intro pl s2 S2
    refine wpAny_pure ⟨qt_subloop _, ?_⟩
    refine sub_loop P hx hr (x.cps.size + 1) 0 0 [] 0 s2 (by omega) (by omega) (by simp; omega) (by simp; omega) S2 fun t' s' htk S' => ?_
    exact h t' s' htk S'
  have hk : builtinKind "re.Pattern.sub" = some .method := sb_kind
  simp only [checkBuiltinCall, hk, sb_split]
  refine wpAny_bind (hI.here ?_)
  simp only [Bool.not_true, Bool.false_eq_true, if_false]
  have ha := sb_args (.ref pat) (.str r tr) (.str x tx)
  cases hsig : Manifest.signature? "re.Pattern.sub" with
  | none => exact wpAny_pure go
  | some sig =>
    simp only [argsOk, hsig] at ha
    have h2 : Bind.checkArgs "re.Pattern.sub" sig ⟨[.ref pat, .str r tr, .str x tx], []⟩ = pure () := ha
    show wpAny c.M A.in1 (Bind.checkArgs "re.Pattern.sub" sig ⟨[.ref pat, .str r tr, .str x tx], []⟩) _ _ _
    rw [h2]; exact wpAny_pure go
end
/- Fw25 -/
set_option autoImplicit false
section
variable {c : Cx} {L : Addr} {m : Loc} {mu led : List (Addr × Obj)} {s : Shared} {A : Around} {E : Value → Shared → Prop} {env : Env} {Q : Value → Shared → Prop} {d : Nat}
/-- a thing that is not told has changed -/
theorem At.other (S : At c L m mu led s) {a : Addr} {h' : Heap} {tk : Nat} (hL : a ≠ L) (hm : a ∉ mu.map (·.1)) (hl : a ∉ led.map (·.1)) (hb : c.base.objs.size ≤ a) (hs : Heap.SameBut a s.heap h') : At c L m mu led { s with heap := h', toks := tk } where
  ok := S.ok
  ns := S.ns.sameBut hs (Ne.symm hL)
  newL := S.newL
  keep := fun b o e n => (hs.2 b (Nat.ne_of_lt (Nat.lt_of_lt_of_le (Heap.lt_size e) hb))).trans (S.keep b o e n)
  tab := fun t ht => (S.tab t ht).of fun b o hb' e => (hs.2 _ (Nat.ne_of_lt (Nat.lt_of_lt_of_le (hb'.elim (fun q => q ▸ (S.ok.tab_lt ht).1) fun q => q ▸ (S.ok.tab_lt ht).2) hb))).trans e
  hmu := fun p hp => ⟨(hs.2 _ fun e => hm (List.mem_map.mpr ⟨p, hp, e⟩)).trans (S.hmu p hp).1, (S.hmu p hp).2⟩
  nod := S.nod
  hled := fun p hp => ⟨(hs.2 _ fun e => hl (List.mem_map.mpr ⟨p, hp, e⟩)).trans (S.hled p hp).1, (S.hled p hp).2⟩
  gens := S.gens
  os := S.os
/-- out of a comprehension's frame -/
theorem At.leave {Lc : Addr} {mc : Loc} {oL : Obj} {led' : List (Addr × Obj)} {h' : Heap} (S : At c Lc mc mu led s) (hb : Backs c L m oL) (hm : (L, oL) ∈ led) (hsub : ∀ p ∈ led', p ∈ led ∧ p.1 ≠ L) (hs : Heap.SameBut Lc s.heap h') : At c L m mu led' { s with heap := h' } := by
  have S0 := hb.2 S hm hsub
  exact S0.other (tk := s.toks) (fun e => (S.hled _ hm).2.1 e.symm) (fun x => by
    obtain ⟨p, hp, e⟩ := List.mem_map.mp x
    exact (S.hmu p hp).2.1 e) (fun x => by
    obtain ⟨p, hp, e⟩ := List.mem_map.mp x
    exact (S.hled p (hsub p hp).1).2.1 e) S.newL hs
abbrev cenvOf (scope : Scope) (cl : List (Str × Addr)) (C : Addr) (env : Env) : Env := compEnvC scope cl C env
theorem r_comp {elt target iter : Expr} {ifs : List Expr} {scope : Scope} {cl : List (Str × Addr)} {pos : Pos} (lc : Loc) (hnd : nodupB (lc.map (·.1)) = true) (hlc : ∀ x v, (x, some v) ∈ lc → False)
    (hclos : closureFor scope env = pure cl) (hcell : ∀ y ∈ scope.names, y.2 ≠ .cell) (hkind : scope.kind = .function) (hnames : ∀ y ∈ scope.names, y.2 = .local → scope.names.lookup y.1 = some .local)
    (h : wpAny c.M A (eval iter env) (fun xv s₁ => wpAny c.M A (pyIter xv) (fun it s₂ => ∃ m2 mu2 led2, At c env.locals m2 mu2 led2 s₂ ∧ ∀ D Lc oL s₄, At c Lc lc ((D, W.listOf #[] 0) :: mu2) ((env.locals, oL) :: led2) s₄ → Backs c env.locals m2 oL →
      (∀ Q' : Value → Shared → Prop, Q' it s₄ → wpAny c.M A (pyIter it) Q' (fun _ _ => False) s₄) ∧
      codeAny c.M A (.compLoop (.ListComp elt [⟨target, iter, ifs, 0⟩] scope pos) 0 it (.ref D) (compEnvC scope cl Lc env))
        (fun r s' => r = .ok .next ∧ ∃ mc mu3 led3 led', At c Lc mc mu3 led3 s' ∧ (env.locals, oL) ∈ led3 ∧ (∀ p ∈ led', p ∈ led3 ∧ p.1 ≠ env.locals) ∧ ∀ s'', At c env.locals m2 mu3 led' s'' → Q (.ref D) s'') s₄) E s₁) E s)
    (hs : ∀ x, foldedSetIterable iter env x = pure x := by intro _; rfl) :
    wpAny c.M A (eval (.ListComp elt [⟨target, iter, ifs, 0⟩] scope pos) env) Q E s := by
  rw [eval_ListComp]
  refine wpAny_comprehension_free rfl hs hclos hkind hnames (wpAny_mono h (fun xv s₁ h₁ => wpAny_mono h₁ (fun it s₂ h₂ => ?_) fun _ _ z => z) fun _ _ z => z)
  obtain ⟨m2, mu2, led2, S2, h₂⟩ := h₂
  refine r_newList S2 ?_ (by kernel_rfl)
  intro D s3 S3
  refine wpAny_newFunctionEnv hcell (by intro y hy; simp at hy) (fun h₁ hns₁ hsb₁ => ?_) hkind
  have keep : ∀ b o, s3.heap.get? b = some o → h₁.get? b = some o := fun b o e => hsb₁.extBut b o (Nat.ne_of_lt (Heap.lt_size e)) (Heap.get?_push_of_some _ e)
  obtain ⟨oL, hb, hdict, S4⟩ := S3.enter (s' := { s3 with heap := h₁, toks := s3.toks + 0 }) (Nat.le_refl _) (m' := lc) ⟨nodup_of hnd, _, hns₁, fun x v hm => (hlc x v hm).elim⟩ keep rfl rfl
  obtain ⟨hit, hloop⟩ := h₂ D _ oL _ S4 ⟨hdict, fun T hm hs => T.back hm hb hs⟩
  have post : ∀ r s', (r = .ok .next ∧ ∃ mc mu3 led3 led', At c s3.heap.objs.size mc mu3 led3 s' ∧ (env.locals, oL) ∈ led3 ∧ (∀ p ∈ led', p ∈ led3 ∧ p.1 ≠ env.locals) ∧ ∀ s'', At c env.locals m2 mu3 led' s'' → Q (.ref D) s'') → compPost c.M A E none Q (.ref D) s3.heap.objs.size r s' := by
    rintro r s' ⟨rfl, mc, mu3, led3, led', S5, hm5, hsub, hq⟩
    obtain ⟨_, f, hn, _⟩ := S5.ns
    exact ⟨f, hn, fun h' hsb => hq _ (S5.leave ⟨hdict, fun T hm hs => T.back hm hb hs⟩ hm5 hsub hsb)⟩
  have loop := codeAny_mono hloop (fun r s' z => post r s' z)
  refine codeAny_compStart_list loop (wpAny_mono (hit _ loop) (fun _ _ z => z) fun _ _ z => z.elim)
/-- the tests of a comprehension -/
abbrev testsOf (ifs : List Expr) (env : Env) : Sem Bool := forIn ifs true fun c r => if r = true then do let ok ← isTrue c env (eval c env); pure (ForInStep.yield ok) else pure (ForInStep.yield r)
end
/- Fw26 -/
set_option autoImplicit false
/-- the first state -/
theorem At.of_fr {c : Cx} {L : Addr} {m : Loc} {s : Shared} {f : Str → Option Value} (O : c.Ok) (F : Fr c.base L s.heap f) (hnd : nodupB (m.map (·.1)) = true) (hl : LocOk f m) (hg : AllBare s.gens) (ho : s.os = c.os) : At c L m [] [] s where
  ok := O
  ns := ⟨nodup_of hnd, f, F.ns, hl.all⟩
  newL := F.above
  keep := fun b o e _ => F.keep b o e
  tab := fun t ht => ⟨#[], by rw [Array.append_empty]; exact ⟨(O.tab t ht).2.keeps F.keep, (O.tab t ht).1.keeps F.keep⟩⟩
  hmu := fun _ h => nomatch h
  nod := List.nodup_nil
  hled := fun _ h => nomatch h
  gens := hg
  os := ho
/- Fw27 -/
set_option autoImplicit false
/-- a thing that is known -/
def Kn (c : Cx) (mu led : List (Addr × Obj)) (a : Addr) (o : Obj) : Prop := (a, o) ∈ mu ∨ (a, o) ∈ led ∨ (c.base.get? a = some o ∧ a ∉ c.tabs.map (·.2.1))
section
variable {c : Cx} {L : Addr} {m : Loc} {mu mu' led led' : List (Addr × Obj)} {s : Shared} {A : Around} {E : Value → Shared → Prop} {env : Env} {Q : Value → Shared → Prop} {d : Nat}
theorem At.kn (S : At c L m mu led s) {a : Addr} {o : Obj} (h : Kn c mu led a o) : s.heap.get? a = some o := by
  rcases h with h | h | h
  · exact S.muGet h
  · exact S.ledGet h
  · exact S.keep _ _ h.1 h.2
theorem Kn.mono {a : Addr} {o : Obj} (h : Kn c mu led a o) (hm : ∀ p ∈ mu, p ∈ mu') (hl : ∀ p ∈ led, p ∈ led') : Kn c mu' led' a o := by
  rcases h with h | h | h
  · exact .inl (hm _ h)
  · exact .inr (.inl (hl _ h))
  · exact .inr (.inr h)
theorem At.knIsList (S : At c L m mu led s) {a : Addr} {vs : List Value} {n : Nat} (h : Kn c mu led a (W.listOf vs.toArray n)) : s.heap.IsList a vs.toArray := ⟨_, S.kn h, rfl, _, rfl⟩
theorem At.knIsSeq (S : At c L m mu led s) {a : Addr} {vs : List Value} {n : Nat} (h : Kn c mu led a (W.listOf vs.toArray n)) : IsSeq s.heap a vs := ⟨_, _, S.kn h, rfl⟩
theorem At.knLL (S : At c L m mu led s) {a : Addr} {vs : List Value} {n : Nat} (h : Kn c mu led a (W.listOf vs.toArray n)) : LL c s a := LL.list (S.kn h) rfl
/-- what a list of values stands for -/
inductive Reps {γ : Type} (rep : γ → Value → Prop) : List Value → List γ → Prop where
  | nil : Reps rep [] []
  | cons {y : γ} {v : Value} {vs : List Value} {ys : List γ} : rep y v → Reps rep vs ys → Reps rep (v :: vs) (y :: ys)
theorem Reps.length {γ : Type} {rep : γ → Value → Prop} {vs : List Value} {ys : List γ} (h : Reps rep vs ys) : vs.length = ys.length := by
  induction h with
  | nil => rfl
  | cons _ _ ih => simp [ih]
theorem Reps.snoc {γ : Type} {rep : γ → Value → Prop} {vs : List Value} {ys : List γ} {y : γ} {v : Value} (h : Reps rep vs ys) (hv : rep y v) : Reps rep (vs ++ [v]) (ys ++ [y]) := by
  induction h with
  | nil => exact .cons hv .nil
  | cons h1 _ ih => exact .cons h1 ih
theorem Reps.append {γ : Type} {rep : γ → Value → Prop} {vs ws : List Value} {ys zs : List γ} (h : Reps rep vs ys) (h' : Reps rep ws zs) : Reps rep (vs ++ ws) (ys ++ zs) := by
  induction h with
  | nil => exact h'
  | cons h1 _ ih => exact .cons h1 ih
theorem Reps.mono {γ : Type} {rep rep' : γ → Value → Prop} {vs : List Value} {ys : List γ} (h : Reps rep vs ys) (hr : ∀ y v, rep y v → rep' y v) : Reps rep' vs ys := by
  induction h with
  | nil => exact .nil
  | cons h1 _ ih => exact .cons (hr _ _ h1) ih
theorem Reps.get {γ : Type} {rep : γ → Value → Prop} : ∀ {vs : List Value} {ys : List γ}, Reps rep vs ys → ∀ {i : Nat} {y : γ}, ys[i]? = some y → ∃ v, vs[i]? = some v ∧ rep y v
  | _, _, .nil, i, y, h => by simp at h
  | _, _, .cons h1 _, 0, y, h => by simp at h; subst h; exact ⟨_, rfl, h1⟩
  | _, _, .cons _ r, i + 1, y, h => by
    obtain ⟨v, e, q⟩ := r.get (i := i) (by simpa using h)
    exact ⟨v, by simpa using e, q⟩
theorem Reps.drop {γ : Type} {rep : γ → Value → Prop} : ∀ {vs : List Value} {ys : List γ}, Reps rep vs ys → ∀ k : Nat, Reps rep (vs.drop k) (ys.drop k)
  | _, _, h, 0 => h
  | _, _, .nil, _ + 1 => .nil
  | _, _, .cons _ r, k + 1 => r.drop k
theorem Reps.take {γ : Type} {rep : γ → Value → Prop} : ∀ {vs : List Value} {ys : List γ}, Reps rep vs ys → ∀ k : Nat, Reps rep (vs.take k) (ys.take k)
  | _, _, _, 0 => .nil
  | _, _, .nil, _ + 1 => .nil
  | _, _, .cons h r, k + 1 => .cons h (r.take k)
def isI (i : Int) (v : Value) : Prop := ∃ t, v = .int i t
def isS (x : Str) (v : Value) : Prop := ∃ t, v = .str x t
abbrev RI := Reps isI
abbrev RS := Reps isS
theorem RI.ints {vs : List Value} {ns : List Int} (h : RI vs ns) : IntsAre vs ns := by
  induction h with
  | nil => exact .nil
  | cons h1 _ ih => obtain ⟨t, rfl⟩ := h1; exact .cons _ t ih
theorem RS.strs {vs : List Value} {ns : List Str} (h : RS vs ns) : StrsAre vs ns := by
  induction h with
  | nil => exact .nil
  | cons h1 _ ih => obtain ⟨t, rfl⟩ := h1; exact .cons _ t ih
theorem RI.of {vs : List Value} {ns : List Int} (h : IntsAre vs ns) : RI vs ns := by
  induction h with
  | nil => exact .nil
  | cons n t _ ih => exact .cons ⟨t, rfl⟩ ih
theorem RS.of {vs : List Value} {ns : List Str} (h : StrsAre vs ns) : RS vs ns := by
  induction h with
  | nil => exact .nil
  | cons n t _ ih => exact .cons ⟨t, rfl⟩ ih
theorem filterMap_range_succ {γ : Type} (g : Nat → Option γ) (i : Nat) : (List.range (i + 1)).filterMap g = (List.range i).filterMap g ++ (g i).toList := by
  rw [List.range_succ, List.filterMap_append]
  cases h : g i <;> simp [h]
end
/- Fw28 -/
set_option autoImplicit false
section
variable {c : Cx} {L : Addr} {m : Loc} {mu mu' led led' : List (Addr × Obj)} {s : Shared} {A : Around} {E : Value → Shared → Prop} {env : Env} {Q : Value → Shared → Prop} {d : Nat}
/-! names -/
theorem n_l {x : Str} {pos : Pos} {v : Value} (S : At c env.locals m mu led s) (h : Q v s) (hv : (x, some v) ∈ m := by walk_at "mem") (hk : env.scope.kind = .function := by kernel_rfl) (hl : env.kindOf x = some .local := by kernel_rfl) (hd : (x == ("__debug__" : Str)) = false := by kernel_rfl) : wpAny c.M A (eval (.Name x pos) env) Q E s := r_local S hv h hk hl hd
theorem n_c {x : Str} {pos : Pos} {v : Value} (a : Addr) (S : At c L m mu led s) (h : Q v s) (hm : (a, cellO (some v)) ∈ mu := by walk_at "mem") (hc : env.cells.lookup x = some a := by kernel_rfl) (hk : env.scope.kind = .function := by kernel_rfl) (hl : env.kindOf x = some .cell := by kernel_rfl) (hd : (x == ("__debug__" : Str)) = false := by kernel_rfl) : wpAny c.M A (eval (.Name x pos) env) Q E s := r_cell S hc (.inl hm) h hk hl hd
theorem n_b {x : Str} {pos : Pos} (v : Value) (S : At c L m mu led s) (h : Q v s) (hg : nsIn c.K mainGlobals x = some none := by kernel_rfl) (hb : bootBuiltins x = some v := by kernel_rfl) (hn : x ≠ "__name__" := by decide)
    (hk : env.scope.kind = .function := by kernel_rfl) (hl : env.kindOf x = some .globalImplicit := by kernel_rfl) (hgl : env.globals = mainGlobals := by kernel_rfl) (hbi : env.builtins = builtinsNs := by kernel_rfl) (hd : (x == ("__debug__" : Str)) = false := by kernel_rfl) : wpAny c.M A (eval (.Name x pos) env) Q E s :=
  r_bi S hg hb hn h hk hl hgl hbi hd
theorem n_g {x : Str} {pos : Pos} (v : Value) (S : At c L m mu led s) (h : Q v s) (hg : nsIn c.K mainGlobals x = some (some v) := by kernel_rfl)
    (hk : env.scope.kind = .function := by kernel_rfl) (hl : env.kindOf x = some .globalImplicit := by kernel_rfl) (hgl : env.globals = mainGlobals := by kernel_rfl) (hd : (x == ("__debug__" : Str)) = false := by kernel_rfl) : wpAny c.M A (eval (.Name x pos) env) Q E s :=
  r_glob S hg h hk hl hgl hd
theorem st_l {x : Str} {v : Value} {m' : Loc} {Q : Unit → Shared → Prop} (S : At c env.locals m mu led s) (h : ∀ s', At c env.locals m' mu led s' → Q () s') (hs : SetAt x (some v) m m' := by walk_at "set")
    (hk : env.scope.kind = .function := by kernel_rfl) (hl : env.kindOf x = some .local := by kernel_rfl) : wpAny c.M A (storeName env x v) Q E s := r_store S hs h hk hl
theorem st_c {x : Str} {v : Value} {Q : Unit → Shared → Prop} (a : Addr) (v₀ : Option Value) (S : At c L m mu led s)
    (h : ∀ s', At c L m mu' led s' → Q () s') (hs : SetM a (cellO v₀) (cellO (some v)) mu mu' := by walk_at "setm") (hc : env.cells.lookup x = some a := by kernel_rfl)
    (hk : env.scope.kind = .function := by kernel_rfl) (hl : env.kindOf x = some .cell := by kernel_rfl) : wpAny c.M A (storeName env x v) Q E s := r_storeC S hc hs h hk hl
/-! lists -/
theorem r_addL {a b : Addr} {vs ws : List Value} {n k : Nat} (S : At c L m mu led s) (ha : Kn c mu led a (W.listOf vs.toArray n)) (hb : Kn c mu led b (W.listOf ws.toArray k)) (hz : vs.length + ws.length ≤ 1000000)
    (h : ∀ r s', At c L m ((r, W.listOf (vs ++ ws).toArray 0) :: mu) led s' → Q (.ref r) s') : wpAny c.M A (binaryOp .Add (.ref a) (.ref b)) Q E s := by
  have S1 := S.pushM (o := W.listOf (vs ++ ws).toArray 0) rfl
  refine P.add_list (S.kn ha) (S.kn hb) ?_ (by rw [List.size_toArray, List.size_toArray, sizeLine_eq]; omega)
  rw [show vs.toArray ++ ws.toArray = (vs ++ ws).toArray from by simp]
  exact h _ _ S1
theorem r_lenL {b : Addr} {vs : List Value} {n : Nat} (S : At c L m mu led s) (hb : Kn c mu led b (W.listOf vs.toArray n)) (hz : vs.length ≤ 1000000)
    (h : ∀ t s', At c L m mu led s' → Q (.int vs.length t) s') : wpAny c.M A (call (.builtin "len") [.ref b]) Q E s := by
  refine call_len_list (S.knIsList hb) (by rw [List.size_toArray]; omega) ?_
  rw [List.size_toArray]
  exact h _ _ (S.toks _)
theorem kn_mu {a : Addr} {o : Obj} (h : (a, o) ∈ mu) : Kn c mu led a o := .inl h
theorem kn_led {a : Addr} {o : Obj} (h : (a, o) ∈ led) : Kn c mu led a o := .inr (.inl h)
theorem r_min2 {a b : Int} {t u : Tok} (S : At c L m mu led s) (hh : A.handled = none) (h : ∀ t s', At c L m mu led s' → Q (.int (min a b) t) s') : wpAny c.M A (call (.builtin "min") [.int a t, .int b u]) Q E s := by
  refine min_two_ints hh fun h' tk hk => ?_
  have S1 : At c L m mu led { s with heap := h', toks := tk } := S.same hk
  by_cases q : b < a
  · rw [if_pos q]
    have := h u _ S1
    rwa [show min a b = b by omega] at this
  · rw [if_neg q]
    have := h t _ S1
    rwa [show min a b = a by omega] at this
theorem r_max2 {a b : Int} {t u : Tok} (S : At c L m mu led s) (hh : A.handled = none) (h : ∀ t s', At c L m mu led s' → Q (.int (max a b) t) s') : wpAny c.M A (call (.builtin "max") [.int a t, .int b u]) Q E s := by
  refine max_two_ints hh fun h' tk hk => ?_
  have S1 : At c L m mu led { s with heap := h', toks := tk } := S.same hk
  by_cases q : b > a
  · rw [if_pos q]
    have := h u _ S1
    rwa [show max a b = b by omega] at this
  · rw [if_neg q]
    have := h t _ S1
    rwa [show max a b = a by omega] at this
theorem r_sumL {l : Addr} {vs : List Value} {ns : List Int} (S : At c L m mu led s) (hh : A.handled = none) (hl : s.heap.IsList l vs.toArray) (hi : IntsAre vs ns)
    (h : ∀ t s', At c L m mu led s' → Q (.int ns.sum t) s') : wpAny c.M A (call (.builtin "sum") [.ref l]) Q E s := by
  obtain ⟨xs, hx⟩ := hi.allInts.items
  have hl' : s.heap.IsList l (intItems xs) := hx ▸ hl
  refine sum_intListG hh hl' fun h' tk t' hk => ?_
  have e1 : ns = xs.toList.map (·.1) := by
    rw [← nums_intItems, ← hx]
    exact (show numsOf vs.toArray.toList = ns from hi.numsOf).symm
  have e2 : preSum (numAt xs) xs.size = ns.sum := by
    rw [preSum_eq, List.take_of_length_le (by simp), e1]
  rw [e2]
  exact h t' _ (S.same hk)
theorem r_maxL {l : Addr} {vs : List Value} {ns : List Int} (S : At c L m mu led s) (hh : A.handled = none) (hl : s.heap.IsList l vs.toArray) (hi : IntsAre vs ns) (hne : 0 < ns.length)
    (h : ∀ M t s', M ∈ ns → (∀ a, a ∈ ns → a ≤ M) → At c L m mu led s' → Q (.int M t) s') : wpAny c.M A (call (.builtin "max") [.ref l]) Q E s := by
  obtain ⟨xs, e⟩ := hi.allInts.items
  have hns : ns = xs.toList.map (·.1) := by rw [← hi.numsOf, ← nums_intItems, ← e]
  have hsz : 0 < xs.size := by
    have h3 := hne; rw [hns, List.length_map, Array.length_toList] at h3; exact h3
  rw [e] at hl
  refine max_intList hh hl hsz fun v h' tk hv hk => ?_
  obtain ⟨t, rfl⟩ := intItems_at hv
  obtain ⟨h1, h2⟩ := argBest_gt (numAt xs) (xs.size - 1)
  refine h _ t _ ?_ (fun a ha => ?_) (S.same hk)
  · rw [hns, numAt_eq]; exact getD_mem (by rw [List.length_map, Array.length_toList]; omega)
  · rw [hns] at ha
    obtain ⟨j, hj, rfl⟩ := mem_getD ha
    rw [List.length_map, Array.length_toList] at hj
    rw [← numAt_eq]; exact h2 j (by omega)
theorem r_chr {i : Int} {t : Tok} (S : At c L m mu led s) (hi : (decide (i < 0) || decide (i > 0x10FFFF)) = false) (h : ∀ t s', At c L m mu led s' → Q (.str ⟨#[i.toNat]⟩ t) s') : wpAny c.M A (call (.builtin "chr") [.int i t]) Q E s :=
  P.chr_of_int hi (h _ _ (S.toks _))
theorem r_mulS {x : Str} {n : Int} {t u : Tok} (S : At c L m mu led s) (hx : x.length ≤ 100) (hn : n ≤ 10000) (h0 : 0 ≤ n) (h : ∀ t s', At c L m mu led s' → Q (.str (Txt.mul x n) t) s') : wpAny c.M A (binaryOp .Mult (.str x t) (.int n u)) Q E s :=
  SB.mul (mulOk_of 100 10000 hx hn (by omega) (by omega) (by omega)) fun _ _ => h _ _ (S.toks _)
/-- dots -/
def dots (n : Nat) : Str := ⟨Array.replicate n 46⟩
theorem dots_length (n : Nat) : (dots n).length = n := by simp [dots, Str.length]
theorem mul_dot (n : Nat) : Txt.mul "." (n : Int) = dots n := by
  unfold Txt.mul dots
  by_cases h0 : (n : Int) < 1
  · rw [if_pos h0]
    have : n = 0 := by omega
    subst this; rfl
  · rw [if_neg h0]
    have h1 : (("." : Str).length == 0) = false := by decide +kernel
    by_cases h2 : (n : Int) = 1
    · have : n = 1 := by omega
      subst this
      decide +kernel
    · have e1 : ((n : Int) == 1) = false := by simpa using h2
      rw [e1, h1]
      simp only [Bool.or_self, Bool.false_eq_true, if_false, Int.toNat_natCast]
      have key : ∀ (k : Nat) (acc : Array Nat), (List.replicate k ("." : Str).cps).foldl (· ++ ·) acc = acc ++ Array.replicate k 46 := by
        intro k
        induction k with
        | zero => intro acc; simp
        | succ k ih =>
          intro acc
          rw [List.replicate_succ, List.foldl_cons, ih]
          have : ("." : Str).cps = #[46] := by decide +kernel
          rw [this]
          apply Array.ext'
          simp [List.replicate_succ]
      rw [key]
      simp
/-! lists compared -/
theorem reads_strs {vs : List Value} {xs : List Str} {h : Heap} (r : RS vs xs) : ReadsAll h vs (xs.map .str) [] := by
  induction r with
  | nil => exact .nil
  | cons h1 _ ih =>
    obtain ⟨t, rfl⟩ := h1
    exact .cons (as := []) (bs := []) (.str _ _) ih
theorem reads_ints {vs : List Value} {xs : List Int} {h : Heap} (r : RI vs xs) : ReadsAll h vs (xs.map .int) [] := by
  induction r with
  | nil => exact .nil
  | cons h1 _ ih =>
    obtain ⟨t, rfl⟩ := h1
    exact .cons (as := []) (bs := []) (.int _ _) ih
theorem depth_strs : ∀ xs : List Str, PyData.depthAll (xs.map .str) = 0
  | [] => by simp [PyData.depthAll]
  | x :: xs => by simp [PyData.depthAll, PyData.depth, depth_strs xs]
theorem depth_ints : ∀ xs : List Int, PyData.depthAll (xs.map .int) = 0
  | [] => by simp [PyData.depthAll]
  | x :: xs => by simp [PyData.depthAll, PyData.depth, depth_ints xs]
theorem lay_strs : ∀ {xs : List Str}, (∀ x ∈ xs, PyData.strOk x = true) → PyData.canLayAll0 (xs.map .str) = true
  | [], _ => by simp [PyData.canLayAll0]
  | x :: xs, h => by simp [PyData.canLayAll0, PyData.canLay0, h x (.head _), lay_strs fun y hy => h y (.tail _ hy)]
theorem lay_ints : ∀ (xs : List Int), PyData.canLayAll0 (xs.map .int) = true
  | [] => by simp [PyData.canLayAll0]
  | x :: xs => by simp [PyData.canLayAll0, PyData.canLay0, lay_ints xs]
theorem sh_strs {xs : List Str} (h : ∀ x ∈ xs, PyData.strOk x = true) : SeqAt.shaped (.list (xs.map .str)) = true := by
  simp [SeqAt.shaped, PyData.canLay0, PyData.depth, depth_strs, lay_strs h]
theorem sh_ints (xs : List Int) : SeqAt.shaped (.list (xs.map .int)) = true := by
  simp [SeqAt.shaped, PyData.canLay0, PyData.depth, depth_ints, lay_ints]
theorem eqv_strs : ∀ xs ys : List Str, PyData.eqvAll (xs.map .str) (ys.map .str) = (xs == ys)
  | [], [] => by simp [PyData.eqvAll]
  | [], _ :: _ => by simp [PyData.eqvAll]
  | _ :: _, [] => by simp [PyData.eqvAll]
  | x :: xs, y :: ys => by
    simp only [List.map_cons, PyData.eqvAll, PyData.eqv, eqv_strs xs ys]
    rfl
theorem eqv_ints : ∀ xs ys : List Int, PyData.eqvAll (xs.map .int) (ys.map .int) = (xs == ys)
  | [], [] => by simp [PyData.eqvAll]
  | [], _ :: _ => by simp [PyData.eqvAll]
  | _ :: _, [] => by simp [PyData.eqvAll]
  | x :: xs, y :: ys => by
    simp only [List.map_cons, PyData.eqvAll, PyData.eqv, eqv_ints xs ys]
    rfl
theorem AOk.cmp {A : Around} {d : Nat} (h : AOk A d) (hd : d ≤ 480) : A.units + 64 < cLine := by have := h.units; show _ < 9900; omega
theorem At.rdS {b : Addr} {vs : List Value} {n : Nat} {xs : List Str} (S : At c L m mu led s) (hb : Kn c mu led b (W.listOf vs.toArray n)) (r : RS vs xs) : Reads s.heap (.ref b) (.list (xs.map .str)) [b] := .list (S.kn hb) rfl rfl (reads_strs r)
theorem At.rdI {b : Addr} {vs : List Value} {n : Nat} {xs : List Int} (S : At c L m mu led s) (hb : Kn c mu led b (W.listOf vs.toArray n)) (r : RI vs xs) : Reads s.heap (.ref b) (.list (xs.map .int)) [b] := .list (S.kn hb) rfl rfl (reads_ints r)
theorem r_eqS {a b : Addr} {vs ws : List Value} {n k : Nat} {xs ys : List Str} (S : At c L m mu led s) (ha : Kn c mu led a (W.listOf vs.toArray n)) (hb : Kn c mu led b (W.listOf ws.toArray k)) (ra : RS vs xs) (rb : RS ws ys)
    (hx : ∀ x ∈ xs, PyData.strOk x = true) (hy : ∀ x ∈ ys, PyData.strOk x = true) (hA : AOk A d) (hd : d ≤ 480) (h : Q (.bool (xs == ys)) s) : wpAny c.M A (compareOp .Eq (.ref a) (.ref b)) Q E s := by
  refine eq_dataH (S.rdS ha ra) (S.rdS hb rb) (sh_strs hx) (sh_strs hy) (hA.cmp hd) ?_
  rw [show PyData.eqv (.list (xs.map .str)) (.list (ys.map .str)) = (xs == ys) from by simp only [PyData.eqv, eqv_strs]]
  exact h
theorem r_neS {a b : Addr} {vs ws : List Value} {n k : Nat} {xs ys : List Str} (S : At c L m mu led s) (ha : Kn c mu led a (W.listOf vs.toArray n)) (hb : Kn c mu led b (W.listOf ws.toArray k)) (ra : RS vs xs) (rb : RS ws ys)
    (hx : ∀ x ∈ xs, PyData.strOk x = true) (hy : ∀ x ∈ ys, PyData.strOk x = true) (hA : AOk A d) (hd : d ≤ 480) (h : Q (.bool (!(xs == ys))) s) : wpAny c.M A (compareOp .NotEq (.ref a) (.ref b)) Q E s := by
  refine ne_dataH (S.rdS ha ra) (S.rdS hb rb) (sh_strs hx) (sh_strs hy) (hA.cmp hd) ?_
  rw [show PyData.eqv (.list (xs.map .str)) (.list (ys.map .str)) = (xs == ys) from by simp only [PyData.eqv, eqv_strs]]
  exact h
theorem r_eqI {a b : Addr} {vs ws : List Value} {n k : Nat} {xs ys : List Int} (S : At c L m mu led s) (ha : Kn c mu led a (W.listOf vs.toArray n)) (hb : Kn c mu led b (W.listOf ws.toArray k)) (ra : RI vs xs) (rb : RI ws ys)
    (hA : AOk A d) (hd : d ≤ 480) (h : Q (.bool (xs == ys)) s) : wpAny c.M A (compareOp .Eq (.ref a) (.ref b)) Q E s := by
  refine eq_dataH (S.rdI ha ra) (S.rdI hb rb) (sh_ints xs) (sh_ints ys) (hA.cmp hd) ?_
  rw [show PyData.eqv (.list (xs.map .int)) (.list (ys.map .int)) = (xs == ys) from by simp only [PyData.eqv, eqv_ints]]
  exact h
theorem r_neI {a b : Addr} {vs ws : List Value} {n k : Nat} {xs ys : List Int} (S : At c L m mu led s) (ha : Kn c mu led a (W.listOf vs.toArray n)) (hb : Kn c mu led b (W.listOf ws.toArray k)) (ra : RI vs xs) (rb : RI ws ys)
    (hA : AOk A d) (hd : d ≤ 480) (h : Q (.bool (!(xs == ys))) s) : wpAny c.M A (compareOp .NotEq (.ref a) (.ref b)) Q E s := by
  refine ne_dataH (S.rdI ha ra) (S.rdI hb rb) (sh_ints xs) (sh_ints ys) (hA.cmp hd) ?_
  rw [show PyData.eqv (.list (xs.map .int)) (.list (ys.map .int)) = (xs == ys) from by simp only [PyData.eqv, eqv_ints]]
  exact h
end
/- Fw29 -/
set_option autoImplicit false
section
variable {c : Cx} {L : Addr} {m : Loc} {mu mu' led led' : List (Addr × Obj)} {s : Shared} {A : Around} {E : Value → Shared → Prop} {env : Env} {Q : Value → Shared → Prop} {d : Nat}
/-- a part of a text -/
theorem r_sliceS {value slice : Expr} {x : Str} {t : Tok} {q : Addr} (lo hi : Option (Int × Tok)) (S : At c L m mu led s) (hq : (q, sliceO (partValue lo) (partValue hi) .none) ∈ led) (hz : x.length ≤ 1000000)
    {ops : List Value} (hs : subscripted slice false (.str x t) (.ref q) = operate ops (getItem (.str x t) (.ref q)))
    (h : ∀ t' s', At c L m mu led s' → Q (.str (Txt.slice x (lo.map (·.1)) (hi.map (·.1))) t') s') : wpAny c.M A (subscriptTail value slice (.str x t) (.ref q)) Q E s := by
  refine r_tail (t := .type "str") (id := "str.__getitem__") S.inK ?_ (by kernel_rfl) hs ?_
  · exact Looks.now
  · refine wpAny_getItem_str_slice (l := lo) (u := hi) (st := none) ⟨_, S.ledGet hq, rfl, rfl⟩ rfl ?_
    exact post_val_or_str ⟨Nat.le_trans (Txt.slice_le x _ _) (le_sz (by omega)), fun t' k => h t' _ (S.toks k)⟩
theorem filterMap_range' (l : List Nat) : ∀ (n a : Nat), a + n ≤ l.length → (List.range' a n).filterMap (l.toArray[·]?) = (l.drop a).take n
  | 0, a, _ => by simp
  | n + 1, a, h => by
    rw [List.range'_succ, List.filterMap_cons]
    have e : l.toArray[a]? = some l[a] := by simp [List.getElem?_eq_getElem (show a < l.length by omega)]
    rw [e]
    dsimp only
    rw [filterMap_range' l n (a + 1) (by omega), List.drop_eq_getElem_cons (show a < l.length by omega), List.take_succ_cons]
theorem slice_eq (x : Str) (lo hi : Option Int) (a b : Nat) (e1 : (match lo with | none => 0 | some i => max 0 (min (if i < 0 then i + (x.length : Int) else i) (x.length : Int))) = (a : Int)) (e2 : (match hi with | none => (x.length : Int) | some i => max 0 (min (if i < 0 then i + (x.length : Int) else i) (x.length : Int))) = (b : Int)) (ha : a ≤ b) (hb : b ≤ x.length) : Txt.slice x lo hi = ⟨((x.cps.toList.drop a).take (b - a)).toArray⟩ := by
  have hidx : Builtin.Str.strSliceIndices lo hi 1 x.length = List.range' a (b - a) := by
    rw [← sliceRange_one]
    unfold Builtin.Str.strSliceIndices
    simp only [show (1 : Int) > 0 from by decide, if_true]
    first | rw [e1, e2] | (cases lo <;> cases hi <;> simp_all)
  unfold Txt.slice
  rw [hidx]
  have hl : x.length = x.cps.toList.length := by simp [Str.length]
  have hp : (List.range' a (b - a)).filterMap (x.cps[·]?) = (x.cps.toList.drop a).take (b - a) := by
    have := filterMap_range' x.cps.toList (b - a) a (by omega)
    simpa using this
  rw [hp]
  split
  · rename_i q
    simp only [Bool.and_eq_true, beq_iff_eq, List.length_range'] at q
    have ha0 : a = 0 := by omega
    have hb0 : b - a = x.cps.toList.length := by omega
    rw [ha0, List.drop_zero, show b - 0 = x.cps.toList.length by omega, List.take_length]
  · rfl
theorem slice_to (x : Str) (k : Nat) : Txt.slice x none (some (k : Int)) = ⟨(x.cps.toList.take k).toArray⟩ := by
  rw [slice_eq x none (some (k : Int)) 0 (min k x.length) rfl (by simp; omega) (Nat.zero_le _) (Nat.min_le_right _ _)]
  rw [List.drop_zero, Nat.sub_zero]
  congr 2
  rw [List.take_eq_take_iff]
  simp [Str.length]
theorem slice_from (x : Str) (k : Nat) : Txt.slice x (some (k : Int)) none = ⟨(x.cps.toList.drop k).toArray⟩ := by
  have hl : x.length = x.cps.toList.length := by simp [Str.length]
  rw [slice_eq x (some (k : Int)) none (min k x.length) x.length (by simp; omega) rfl (Nat.min_le_right _ _) (Nat.le_refl _)]
  congr 2
  by_cases h : k ≤ x.length
  · rw [Nat.min_eq_left h]
    exact List.take_of_length_le (by rw [List.length_drop]; omega)
  · rw [Nat.min_eq_right (by omega), List.drop_of_length_le (by omega), List.drop_of_length_le (by omega)]; simp
theorem sp_parts (x y : Str) : (Builtin.Str.partsBetween x (Builtin.Str.occurrences x y 0 x.length (x.length + 1)) y.length).length ≤ x.length + 2 := by
  have e1 := StrLaws.occ_length_le x y 0 x.length (x.length + 1)
  rw [length_partsBetween]; omega
/-- a text cut at a mark -/
theorem r_split {x y : Str} {t u : Tok} (S : At c L m mu led s) (hy : (y.length == 0) = false) (hx : x.length ≤ 1000000)
    (h : ∀ D l s', l.map (·.1) = Txt.split x y → At c L m ((D, W.listOf (strValues l).toArray 0) :: mu) led s' → Q (.ref D) s') : wpAny c.M A (call (.builtin "str.split") [.str x t, .str y u]) Q E s := by
  have hsz : x.length ≤ sizeLine := le_sz (by omega)
  have hn : (Builtin.Str.partsBetween x (Builtin.Str.occurrences x y 0 x.length (x.length + 1)) y.length).length ≤ sizeLine := Nat.le_trans (sp_parts x y) (le_sz (by omega))
  have push : ∀ l : List (Str × Tok), ∀ tk, At c L m ((s.heap.objs.size, W.listOf (strValues l).toArray 0) :: mu) led { s with heap := s.heap.push (W.listOf (strValues l).toArray 0), toks := tk } := fun l tk => (S.pushM (o := W.listOf (strValues l).toArray 0) rfl).toks tk
  cases h1 : (decide (x.length < y.length) || decide (Builtin.Str.strKind x < Builtin.Str.strKind y))
  · cases hf : (Builtin.Str.occurrences x y 0 x.length (x.length + 1)).isEmpty
    · refine call_meets F.slot_str_split (typeIs_str _ _ _) F.entry_str_split (F.args_str_split_2 _ _) (meets_str_split_sep x y t u h1 hy hf hsz hn) ?_
      show wants Q E _ { s with toks := _, heap := s.heap.push { cls := .type "list", data := .seq (strsFrom s.toks (Builtin.Str.partsBetween x (Builtin.Str.occurrences x y 0 x.length (x.length + 1)) y.length)).toArray } }
      rw [strsFrom_eq]
      exact h _ (numbered s.toks _) _ ((numbered_texts _ _).trans ((if_neg (ne_true_of_eq_false h1)).trans (if_neg (ne_true_of_eq_false hf))).symm) (push _ _)
    · refine call_meets F.slot_str_split (typeIs_str _ _ _) F.entry_str_split (F.args_str_split_2 _ _) (meets_str_split_not_found x y t u h1 hy hf) ?_
      exact h _ [(x, t)] _ ((if_neg (ne_true_of_eq_false h1)).trans (if_pos hf)).symm (push _ s.toks)
  · refine call_meets F.slot_str_split (typeIs_str _ _ _) F.entry_str_split (F.args_str_split_2 _ _) (meets_str_split_cannot_occur x y t u h1) ?_
    exact h _ [(x, t)] _ (if_pos h1).symm (push _ s.toks)
theorem rs_values (l : List (Str × Tok)) : RS (strValues l) (l.map (·.1)) := by
  induction l with
  | nil => exact .nil
  | cons p r ih => exact .cons ⟨p.2, rfl⟩ ih
theorem mapSeq_list (f : Array Value → Array Value) (vs ws : List Value) (n : Nat) (e : f vs.toArray = ws.toArray) : Obj.mapSeq f (W.listOf vs.toArray n) = W.listOf ws.toArray (if ws.length == vs.length then n else n + 1) := by
  simp [Obj.mapSeq, W.listOf, e]
theorem r_extend {D b : Addr} {vs ws : List Value} {n k : Nat} (mu' : Nat → List (Addr × Obj)) (S : At c L m mu led s) (hm : ∀ n', SetM D (W.listOf vs.toArray n) (W.listOf (vs ++ ws).toArray n') mu (mu' n')) (hb : Kn c mu led b (W.listOf ws.toArray k))
    (hz : vs.length + ws.length ≤ 1000000) (h : ∀ n' s', At c L m (mu' n') led s' → Q .none s') : wpAny c.M A (call (.builtin "list.extend") [.ref D, .ref b]) Q E s := by
  have hD := S.muGet (hm 0).mem
  have hs : vs.toArray.size + ws.toArray.size ≤ sizeLine := by rw [List.size_toArray, List.size_toArray, sizeLine_eq]; omega
  refine call_meets PySem.F.slot_list_extend ⟨_, hD, rfl⟩ PySem.F.entry_list_extend (PySem.F.args_list_extend_2 _ _) (AutoSeq1.list_extend_list_list_0 D vs.toArray n b ws.toArray k (extend_door hs) (Nat.le_trans (Nat.le_add_right _ _) hs)) ⟨hD, S.kn hb, ?_⟩
  exact h _ _ ((S.toks s.toks).upd (hm _) (mapSeq_list _ vs (vs ++ ws) n (by simp)) rfl)
/-- a tuple unpacked -/
theorem r_unpack {elts : List Expr} {k : Nat} {pos : Pos} {t : Addr} {vs : List Value} {Q : Unit → Shared → Prop} (S : At c L m mu led s) (hh : A.handled = none) (ht : (t, tupO vs) ∈ led)
    (h : ∀ s', At c L m mu led s' → wpAny c.M A (assignInOrder ((assignEach elts env).map (·.2)) vs) Q E s')
    (hn : (assignEach elts env).length = vs.length := by rfl) (hstar : (assignEach elts env).findIdx? (·.1) = none := by rfl) : wpAny c.M A (assign (.Tuple elts k pos) env (.ref t)) Q E s := by
  refine assign_Tuple_tuple hh (items := vs.toArray) ⟨_, S.ledGet ht, rfl, _, rfl⟩ (by rw [List.size_toArray]; exact hn) hstar fun h' he => ?_
  exact h _ (S.same (t := s.toks) fun b o e => he b o (Nat.ne_of_lt (Heap.lt_size e)) e)
/-- items of lists -/
theorem r_itemL {value slice : Expr} {a : Addr} {vs : List Value} {n : Nat} {k : Int} {t : Tok} (j : Nat) {v : Value} (S : At c L m mu led s) (ha : Kn c mu led a (W.listOf vs.toArray n)) (hk : k = (j : Int)) (hz : vs.length ≤ 1000000) (hv : vs[j]? = some v)
    {ops : List Value} (hs : subscripted slice false (.ref a) (.int k t) = operate ops (getItem (.ref a) (.int k t))) (h : Q v s) : wpAny c.M A (subscriptTail value slice (.ref a) (.int k t)) Q E s := by
  subst hk
  have hj : j < vs.length := by
    rcases Nat.lt_or_ge j vs.length with q | q
    · exact q
    · rw [List.getElem?_eq_none q] at hv; cases hv
  exact LL.tail S.inK (S.knLL ha) hs (r_item S (S.knLL ha) (S.kn ha) rfl (by omega) (by omega) (by simpa using hv) h)
theorem r_sliceL {value slice : Expr} {a q : Addr} {vs : List Value} {n : Nat} {vl vu : Value} {lo hi : Option Int} (ws : List Value) (S : At c L m mu led s) (ha : Kn c mu led a (W.listOf vs.toArray n)) (hq : (q, sliceO vl vu .none) ∈ led) (pl : IsPart vl lo) (pu : IsPart vu hi)
    (hz : vs.length ≤ 1000000) (e : slicePick vs.toArray lo hi none = ws.toArray) {ops : List Value} (hs : subscripted slice false (.ref a) (.ref q) = operate ops (getItem (.ref a) (.ref q)))
    (h : ∀ b s', At c L m ((b, W.listOf ws.toArray 0) :: mu) led s' → Q (.ref b) s') : wpAny c.M A (subscriptTail value slice (.ref a) (.ref q)) Q E s := by
  refine LL.tail S.inK (S.knLL ha) hs (r_slice S (S.knLL ha) (S.kn ha) rfl hq pl pu hz ?_)
  rw [e]
  exact h
theorem slicePick_but1 (vs : List Value) : slicePick vs.toArray none (some (-1)) none = (vs.take (vs.length - 1)).toArray := by
  rw [slicePick_eq vs none (some (-1)) 0 (vs.length - 1) (by simp [sliceBounds]) (by simp [sliceBounds]; omega) (Nat.zero_le _) (Nat.sub_le _ _)]
  rw [List.drop_zero, Nat.sub_zero]
theorem slicePick_from' (vs : List Value) (k : Nat) : slicePick vs.toArray (some (k : Int)) none none = (vs.drop k).toArray := by
  by_cases hk : k ≤ vs.length
  · exact slicePick_from vs k hk
  · rw [slicePick_eq vs (some (k : Int)) none vs.length vs.length (by simp [sliceBounds]; omega) (by simp [sliceBounds]) (Nat.le_refl _) (Nat.le_refl _)]
    rw [List.drop_of_length_le (show vs.length ≤ k by omega)]; simp
end
/- Fw30 -/
set_option autoImplicit false
section
variable {c : Cx} {L : Addr} {m : Loc} {mu mu' led led' : List (Addr × Obj)} {s : Shared} {A : Around} {E : Value → Shared → Prop} {env : Env} {Q : Value → Shared → Prop} {d : Nat}
/-- the loop of a comprehension, any target, any iterator -/
theorem r_compLoopT {elt target iter : Expr} {ifs : List Expr} {scope : Scope} {pos : Pos} {it acc : Value} {cenv : Env} {R : Result → Shared → Prop} (J : Nat → Shared → Prop) (N : Nat)
    (step : ∀ i s, i < N → J i s → wpAny c.M A (pyNext it) (fun r s₁ => ∃ v, r = some v ∧ wpAny c.M A (letOwnedTupleGo target it v) (fun _ s₁' => wpAny c.M A (assign target cenv v) (fun _ s₂ => wpAny c.M A (testsOf ifs cenv) (fun ok s₃ =>
      if ok = true then wpAny c.M A (eval elt cenv) (fun x s₄ => wpAny c.M A (call (.builtin "list.append") [acc, x]) (fun _ s₅ => J (i + 1) s₅) (fun _ _ => False) s₄) (fun _ _ => False) s₃ else J (i + 1) s₃) (fun _ _ => False) s₂) (fun _ _ => False) s₁') (fun _ _ => False) s₁) (fun _ _ => False) s)
    (last : ∀ s, J N s → wpAny c.M A (pyNext it) (fun r s₁ => r = none ∧ R (.ok .next) s₁) (fun _ _ => False) s)
    (h : J 0 s) :
    codeAny c.M A (.compLoop (.ListComp elt [⟨target, iter, ifs, 0⟩] scope pos) 0 it acc cenv) R s := by
  refine codeAny_loop rfl (fun n s => ∃ i, n = N - i ∧ i ≤ N ∧ J i s) (fun n s hI => ?_) N ⟨0, by omega, by omega, h⟩
  show wpAny _ A ((compTurn (.ListComp elt [⟨target, iter, ifs, 0⟩] scope pos) 0 it acc cenv).onRaise (fun x => do noteFrame x cenv; theTreesLotGoes x)) _ _ s
  refine wpAny_noted ?_
  rw [compTurn_list]
  obtain ⟨i, rfl, hi, hJ⟩ := hI
  refine wpAny_bind (wpAny_standAt (wpAny_bind ?_))
  by_cases q : i = N
  · subst q
    refine wpAny_mono (last s hJ) (fun r s₁ hr => ?_) fun _ _ z => z.elim
    obtain ⟨rfl, hr⟩ := hr
    exact wpAny_pure hr
  · refine wpAny_mono (step i s (by omega) hJ) (fun r s₁ hr => ?_) fun _ _ z => z.elim
    obtain ⟨v, rfl, hr⟩ := hr
    refine wpAny_bind (wpAny_mono hr (fun _ s₁' h₁' => ?_) fun _ _ z => z.elim)
    refine wpAny_bind (wpAny_mono h₁' (fun _ s₂ h₂ => wpAny_bind (wpAny_mono h₂ (fun ok s₃ h₃ => ?_) fun _ _ z => z.elim)) fun _ _ z => z.elim)
    cases ok with
    | false => exact wpAny_pure ⟨rfl, N - (i + 1), by omega, i + 1, rfl, by omega, h₃⟩
    | true =>
      exact wpAny_bind (wpAny_bind (wpAny_mono h₃ (fun x s₄ h₄ => wpAny_bind (wpAny_mono h₄ (fun _ s₅ h₅ => wpAny_pure (wpAny_pure ⟨rfl, N - (i + 1), by omega, i + 1, rfl, by omega, h₅⟩)) fun _ _ z => z.elim)) fun _ _ z => z.elim))
/-- a comprehension's list is made -/
structure CompDone {γ : Type} (c : Cx) (env : Env) (mu led : List (Addr × Obj)) (rep : List (Addr × Obj) → γ → Value → Prop) (ys : List γ) (D : Addr) (oL : Obj) (Lc : Addr) (r : Result) (s' : Shared) : Prop where
  ok : r = .ok .next
  done : ∃ mc vs n news led3, At c Lc mc ((D, W.listOf vs.toArray n) :: mu) led3 s' ∧ (env.locals, oL) ∈ led3 ∧ (∀ p ∈ news ++ led, p ∈ led3 ∧ p.1 ≠ env.locals) ∧ (∀ p ∈ news, isDictB p.2 = false) ∧ Reps (rep (news ++ led)) vs ys
/-- a comprehension makes its list -/
def CompOK {γ : Type} (c : Cx) (A : Around) (E : Value → Shared → Prop) (env : Env) (elt target iter : Expr) (ifs : List Expr) (scope : Scope) (pos : Pos) (cl : List (Str × Addr)) (lc : Loc) (m : Loc) (mu led : List (Addr × Obj)) (rep : List (Addr × Obj) → γ → Value → Prop) (ys : List γ) (s : Shared) : Prop :=
  wpAny c.M A (eval iter env) (fun xv s₁ => wpAny c.M A (pyIter xv) (fun it s₂ => ∃ mu2 led2, At c env.locals m mu2 led2 s₂ ∧ ∀ D Lc oL s₄, At c Lc lc ((D, W.listOf #[] 0) :: mu2) ((env.locals, oL) :: led2) s₄ → Backs c env.locals m oL →
      (∀ Q' : Value → Shared → Prop, Q' it s₄ → wpAny c.M A (pyIter it) Q' (fun _ _ => False) s₄) ∧
      codeAny c.M A (.compLoop (.ListComp elt [⟨target, iter, ifs, 0⟩] scope pos) 0 it (.ref D) (compEnvC scope cl Lc env)) (CompDone c env mu led rep ys D oL Lc) s₄) E s₁) E s
/-- the loop of a comprehension, any target -/
theorem comp_loopT {γ : Type} {elt target iter : Expr} {ifs : List Expr} {scope : Scope} {cl : List (Str × Addr)} {pos : Pos} {it : Addr} {o0 : Obj} {s₂ : Shared}
    (lc : Loc) (M : Nat → Value → Loc → Prop) (hMk : ∀ i v m', M i v m' → m'.map (·.1) = lc.map (·.1)) (hlc : ∀ x v, (x, some v) ∈ lc → False)
    (rep : List (Addr × Obj) → γ → Value → Prop) (g : Nat → Option γ) (I : Nat → Obj → Prop) (V : Nat → Value → Prop) (N : Nat)
    (S : At c env.locals m ((it, o0) :: mu) led s₂) (h0 : I 0 o0) (hN : N ≤ 1000000)
    (hmono : ∀ l l' y v, (∀ p ∈ l, p ∈ l') → rep l y v → rep l' y v)
    (hself : ∀ Lc lc D vs n news s o i, I i o → At c Lc lc ((D, W.listOf vs n) :: (it, o) :: mu) news s → ∀ Q' : Value → Shared → Prop, Q' (.ref it) s → wpAny c.M A (pyIter (.ref it)) Q' (fun _ _ => False) s)
    (hnext : ∀ Lc lc D vs n oL news s o i, i < N → I i o → At c Lc lc ((D, W.listOf vs n) :: (it, o) :: mu) (news ++ (env.locals, oL) :: led) s → ∀ Q' : Option Value → Shared → Prop,
      (∀ v o' s', I (i + 1) o' → V i v → At c Lc lc ((D, W.listOf vs n) :: (it, o') :: mu) (news ++ (env.locals, oL) :: led) s' → Q' (some v) s') → wpAny c.M A (pyNext (.ref it)) Q' (fun _ _ => False) s)
    (hend : ∀ Lc lc D vs n oL news s o, I N o → At c Lc lc ((D, W.listOf vs n) :: (it, o) :: mu) (news ++ (env.locals, oL) :: led) s → ∀ Q' : Option Value → Shared → Prop,
      (∀ s', At c Lc lc ((D, W.listOf vs n) :: mu) (news ++ (env.locals, oL) :: led) s' → Q' none s') → wpAny c.M A (pyNext (.ref it)) Q' (fun _ _ => False) s)
    (hasg : ∀ Lc D vs n oL news s o i v, i < N → V i v → I (i + 1) o → At c Lc lc ((D, W.listOf vs n) :: (it, o) :: mu) (news ++ (env.locals, oL) :: led) s → ∀ Q' : Unit → Shared → Prop,
      (∀ m' s', M i v m' → At c Lc m' ((D, W.listOf vs n) :: (it, o) :: mu) (news ++ (env.locals, oL) :: led) s' → Q' () s') → wpAny c.M A (letOwnedTupleGo target (.ref it) v) (fun _ s₁ => wpAny c.M A (assign target (compEnvC scope cl Lc env) v) Q' (fun _ _ => False) s₁) (fun _ _ => False) s)
    (step : ∀ Lc D vs n oL news s o i v m', i < N → V i v → M i v m' → (∀ p ∈ news, isDictB p.2 = false) → At c Lc m' ((D, W.listOf vs n) :: (it, o) :: mu) (news ++ (env.locals, oL) :: led) s →
      wpAny c.M A (testsOf ifs (compEnvC scope cl Lc env)) (fun ok s₃ => if ok = true then wpAny c.M A (eval elt (compEnvC scope cl Lc env)) (fun r s₄ => ∃ y new, g i = some y ∧ (∀ p ∈ new, isDictB p.2 = false) ∧ rep (new ++ (news ++ led)) y r ∧
        At c Lc m' ((D, W.listOf vs n) :: (it, o) :: mu) (new ++ (news ++ (env.locals, oL) :: led)) s₄) (fun _ _ => False) s₃
        else g i = none ∧ At c Lc m' ((D, W.listOf vs n) :: (it, o) :: mu) (news ++ (env.locals, oL) :: led) s₃) (fun _ _ => False) s) :
    ∃ mu2 led2, At c env.locals m mu2 led2 s₂ ∧ ∀ D Lc oL s₄, At c Lc lc ((D, W.listOf #[] 0) :: mu2) ((env.locals, oL) :: led2) s₄ → Backs c env.locals m oL →
      (∀ Q' : Value → Shared → Prop, Q' (.ref it) s₄ → wpAny c.M A (pyIter (.ref it)) Q' (fun _ _ => False) s₄) ∧
      codeAny c.M A (.compLoop (.ListComp elt [⟨target, iter, ifs, 0⟩] scope pos) 0 (.ref it) (.ref D) (compEnvC scope cl Lc env)) (CompDone c env mu led rep ((List.range N).filterMap g) D oL Lc) s₄ := by
  refine ⟨(it, o0) :: mu, led, S, ?_⟩
  intro D Lc oL s₄ S4 hb
  refine ⟨?_, ?_⟩
  · intro Q' q
    exact hself Lc _ D _ _ _ s₄ o0 0 h0 S4 Q' q
  refine r_compLoopT (J := fun i s' => ∃ (vs : List Value) (n : Nat) (news : List (Addr × Obj)) (o : Obj), I i o ∧ (∀ p ∈ news, isDictB p.2 = false) ∧ Reps (rep (news ++ led)) vs ((List.range i).filterMap g) ∧
    At c Lc lc ((D, W.listOf vs.toArray n) :: (it, o) :: mu) (news ++ (env.locals, oL) :: led) s') N ?_ ?_ ⟨[], 0, [], o0, h0, (by intro p h; cases h), .nil, S4⟩
  · intro i s' hi hJ
    obtain ⟨vs, n, news, o, hI, hnd, hR, S5⟩ := hJ
    refine hnext Lc _ D _ n oL news s' o i hi hI S5 _ ?_
    intro v o' s6 hI' hV S6
    refine ⟨v, rfl, ?_⟩
    refine wpAny_mono (hasg Lc D _ n oL news s6 o' i v hi hV hI' S6 _ ?_) (fun _ _ z => z) fun _ _ z => z
    intro m' s7 hM S7
    have back : ∀ {mu led s}, At c Lc m' mu led s → At c Lc lc mu led s := fun S => S.locSub (hMk _ _ _ hM).symm fun x v h => (hlc x v h).elim
    refine wpAny_mono (step Lc D _ n oL news s7 o' i v m' hi hV hM hnd S7) (fun ok s8 h8 => ?_) fun _ _ z => z
    have hlen : vs.length ≤ 1000000 := by
      rw [hR.length]
      refine Nat.le_trans (List.length_filterMap_le _ _) ?_
      rw [List.length_range]; omega
    cases ok with
    | false =>
      obtain ⟨hg, S8⟩ := h8
      exact ⟨vs, n, news, o', hI', hnd, by rw [filterMap_range_succ, hg]; simpa using hR, back S8⟩
    | true =>
      refine wpAny_mono h8 (fun r s9 h9 => ?_) fun _ _ z => z
      obtain ⟨y, new, hg, hnd', hr, S9⟩ := h9
      refine r_appendL (b := D) (vs := vs) (n := n) S9 .head hlen ?_
      intro s10 S10
      refine ⟨vs ++ [r], n + 1, new ++ news, o', hI', fun p hp => ?_, ?_, by rw [List.append_assoc]; exact back S10⟩
      · rcases List.mem_append.mp hp with hp | hp
        · exact hnd' p hp
        · exact hnd p hp
      · rw [filterMap_range_succ, hg, List.append_assoc]
        exact (hR.mono fun y v q => hmono _ _ y v (fun p hp => List.mem_append.mpr (.inr hp)) q).snoc hr
  · intro s' hJ
    obtain ⟨vs, n, news, o, hI, hnd, hR, S5⟩ := hJ
    refine hend Lc _ D _ n oL news s' o hI S5 _ ?_
    intro s6 S6
    refine ⟨rfl, rfl, _, vs, n, news, _, S6, List.mem_append.mpr (.inr (.head _)), fun p hp => ?_, hnd, hR⟩
    rcases List.mem_append.mp hp with hp | hp
    · refine ⟨List.mem_append.mpr (.inl hp), fun e => ?_⟩
      obtain ⟨es, k, hd⟩ := hb.1
      have e1 := (S6.hled p (List.mem_append.mpr (.inl hp))).1
      have e2 := (S6.hled (env.locals, oL) (List.mem_append.mpr (.inr (.head _)))).1
      rw [e, e2] at e1
      cases e1
      have := hnd p hp
      unfold isDictB at this
      rw [hd] at this
      cases this
    · exact ⟨List.mem_append.mpr (.inr (.tail _ hp)), (S.hled p hp).2.1⟩
/-- a comprehension as a value -/
theorem comp_eval {γ : Type} {elt target iter : Expr} {ifs : List Expr} {scope : Scope} {pos : Pos} {cl : List (Str × Addr)} {lc : Loc} {rep : List (Addr × Obj) → γ → Value → Prop} {ys : List γ}
    (h : CompOK c A E env elt target iter ifs scope pos cl lc m mu led rep ys s)
    (fin : ∀ D vs n news s', (∀ p ∈ news, isDictB p.2 = false) → Reps (rep (news ++ led)) vs ys → At c env.locals m ((D, W.listOf vs.toArray n) :: mu) (news ++ led) s' → Q (.ref D) s')
    (hnd : nodupB (lc.map (·.1)) = true := by rfl) (hlc : ∀ x v, (x, some v) ∈ lc → False := by intro x v h; simp at h)
    (hclos : closureFor scope env = pure cl := by kernel_rfl) (hcell : ∀ y ∈ scope.names, y.2 ≠ .cell := by decide +kernel) (hkind : scope.kind = .function := by kernel_rfl) (hnames : ∀ y ∈ scope.names, y.2 = .local → scope.names.lookup y.1 = some .local := by decide +kernel)
    (hs : ∀ x, foldedSetIterable iter env x = pure x := by intro _; rfl) :
    wpAny c.M A (eval (.ListComp elt [⟨target, iter, ifs, 0⟩] scope pos) env) Q E s := by
  refine r_comp lc hnd hlc hclos hcell hkind hnames (wpAny_mono h (fun xv s₁ h₁ => wpAny_mono h₁ (fun it s₂ h₂ => ?_) fun _ _ z => z) fun _ _ z => z) hs
  obtain ⟨mu2, led2, S2, k⟩ := h₂
  refine ⟨m, mu2, led2, S2, fun D Lc oL s₄ S4 hb => ?_⟩
  obtain ⟨k1, k2⟩ := k D Lc oL s₄ S4 hb
  refine ⟨k1, codeAny_mono k2 fun r s' hr => ?_⟩
  obtain ⟨e, mc, vs, n, news, led3, S5, hm5, hsub, hnd', hR⟩ := hr
  exact ⟨e, mc, _, led3, news ++ led, S5, hm5, hsub, fun s'' S'' => fin D vs n news s'' hnd' hR S''⟩
/-- a comprehension laid into a local name -/
theorem comp_asg {γ : Type} {elt target iter : Expr} {ifs : List Expr} {scope : Scope} {pos py spos : Pos} {y : Str} {cl : List (Str × Addr)} {lc : Loc} {rep : List (Addr × Obj) → γ → Value → Prop} {ys : List γ} {Q : Flow → Shared → Prop}
    (m' : Addr → Loc) (h : CompOK c A E env elt target iter ifs scope pos cl lc m mu led rep ys s)
    (fin : ∀ D vs n news s', (∀ p ∈ news, isDictB p.2 = false) → Reps (rep (news ++ led)) vs ys → At c env.locals (m' D) ((D, W.listOf vs.toArray n) :: mu) (news ++ led) s' → Q .next s')
    (hset : ∀ D, SetAt y (some (.ref D)) m (m' D) := by intro D; walk_at "set")
    (hnd : nodupB (lc.map (·.1)) = true := by rfl) (hlc : ∀ x v, (x, some v) ∈ lc → False := by intro x v h; simp at h)
    (hclos : closureFor scope env = pure cl := by kernel_rfl) (hcell : ∀ y ∈ scope.names, y.2 ≠ .cell := by decide +kernel) (hkind : scope.kind = .function := by kernel_rfl) (hnames : ∀ y ∈ scope.names, y.2 = .local → scope.names.lookup y.1 = some .local := by decide +kernel)
    (hsw : swapsWith (.ListComp elt [⟨target, iter, ifs, 0⟩] scope pos) (some (.Name y py)) spos.line env = pure true := by kernel_rfl) (hy : env.kindOf y = some .local := by kernel_rfl) (hk : env.scope.kind = .function := by kernel_rfl)
    (hs : ∀ x, foldedSetIterable iter env x = pure x := by intro _; rfl) :
    wpAny c.M A (exec (.Assign [.Name y py] (.ListComp elt [⟨target, iter, ifs, 0⟩] scope pos) spos) env) Q E s := by
  rw [exec_Assign_Name_used _ _ _ _ hsw]
  refine wpAny_bind (wpAny_standAt (wpAny_bind ?_))
  show wpAny _ A (do let _ ← comprehension (.ListComp elt [⟨target, iter, ifs, 0⟩] scope pos) scope env _ (newList []) false (eval iter env) (some (assign (.Name y py) env))) _ _ s
  refine wpAny_bind (wpAny_mono (wpAny_comprehension_free (use := some (assign (.Name y py) env)) (Q := fun _ s' => Q .next s') rfl hs hclos hkind hnames
    (wpAny_mono h (fun xv s₁ h₁ => wpAny_mono h₁ (fun it s₂ h₂ => ?_) fun _ _ z => z) fun _ _ z => z)) (fun _ s' hq => wpAny_pure (wpAny_pure hq)) fun _ _ z => z)
  obtain ⟨mu2, led2, S2, k⟩ := h₂
  refine r_newList S2 ?_ (by kernel_rfl)
  intro D s3 S3
  refine wpAny_newFunctionEnv hcell (by intro y hy; simp at hy) (fun h₁ hns₁ hsb₁ => ?_) hkind
  have keep : ∀ b o, s3.heap.get? b = some o → h₁.get? b = some o := fun b o e => hsb₁.extBut b o (Nat.ne_of_lt (Heap.lt_size e)) (Heap.get?_push_of_some _ e)
  obtain ⟨oL, hb, hdict, S4⟩ := S3.enter (s' := { s3 with heap := h₁, toks := s3.toks + 0 }) (Nat.le_refl _) (m' := lc) ⟨nodup_of hnd, _, hns₁, fun x v hm => (hlc x v hm).elim⟩ keep rfl rfl
  obtain ⟨hit, hloop⟩ := k D _ oL _ S4 ⟨hdict, fun T hm hs => T.back hm hb hs⟩
  have post : ∀ r s', CompDone c env mu led rep ys D oL s3.heap.objs.size r s' → compPost c.M A E (some (assign (.Name y py) env)) (fun _ s' => Q .next s') (.ref D) s3.heap.objs.size r s' := by
    rintro r s' ⟨rfl, mc, vs, n, news, led3, S5, hm5, hsub, hnd', hR⟩
    obtain ⟨_, fc, hnc, _⟩ := S5.ns
    have S6 : At c env.locals m ((D, W.listOf vs.toArray n) :: mu) (news ++ led) s' := S5.back hm5 hb hsub
    obtain ⟨nd, f, hn, hf⟩ := S6.ns
    have hLC : env.locals ≠ s3.heap.objs.size := (S5.hled _ hm5).2.1
    show wpAny _ A (assign (.Name y py) env (.ref D)) _ _ _
    refine wpAny_assign_Name (wpAny_storeName_local hy hn (fun h₂ hn₂ hs₂ => ?_) (by rw [hk]; rfl))
    refine ⟨fc, hnc.sameBut hs₂ (Ne.symm hLC), fun h₃ hs₃ => ?_⟩
    have S7 : At c env.locals (m' D) ((D, W.listOf vs.toArray n) :: mu) (news ++ led) { s' with heap := h₂, toks := s'.toks + 1 } := S6.store ⟨by rw [(hset D).keys]; exact nd, _, hn₂, fun z u hm => by
      rcases (hset D).mem nd z _ hm with ⟨rfl, e⟩ | ⟨ne, hm'⟩
      · cases e; simp
      · simp only [ne, if_false]; exact hf _ _ hm'⟩ hs₂
    refine fin D vs n news _ hnd' hR (S7.other (tk := s'.toks + 1) (fun e => hLC e.symm) (fun x => ?_) (fun x => ?_) S5.newL hs₃)
    · obtain ⟨p, hp, e⟩ := List.mem_map.mp x
      exact (S5.hmu p hp).2.1 e
    · obtain ⟨p, hp, e⟩ := List.mem_map.mp x
      exact (S5.hled p (hsub p hp).1).2.1 e
  have loop := codeAny_mono hloop (fun r s' z => post r s' z)
  refine codeAny_compStart_list loop (wpAny_mono (hit _ loop) (fun _ _ z => z) fun _ _ z => z.elim)
/-- a comprehension over range(N), one name -/
theorem c_R {γ : Type} {elt iter : Expr} {x : Str} {px : Pos} {ifs : List Expr} {scope : Scope} {pos : Pos} (S₀ : At c env.locals m mu led s) (cl : List (Str × Addr))
    (rep : List (Addr × Obj) → γ → Value → Prop) (g : Nat → Option γ) (N : Nat)
    (hN : N ≤ 1000000) (hh : A.handled = none)
    (hit : ∀ Q' : Value → Shared → Prop, (∀ r t1 t2 t3 s', At c env.locals m mu ((r, rangeO 0 (N : Int) 1 t1 t2 t3) :: led) s' → Q' (.ref r) s') → wpAny c.M A (eval iter env) Q' E s)
    (step : ∀ Lc D vs n oL news it o s i t, i < N → (∀ p ∈ news, isDictB p.2 = false) → At c Lc [(x, some (.int (i : Int) t))] ((D, W.listOf vs n) :: (it, o) :: mu) (news ++ (env.locals, oL) :: led) s →
      wpAny c.M A (testsOf ifs (compEnvC scope cl Lc env)) (fun ok s₃ => if ok = true then wpAny c.M A (eval elt (compEnvC scope cl Lc env)) (fun r s₄ => ∃ y new, g i = some y ∧ (∀ p ∈ new, isDictB p.2 = false) ∧ rep (new ++ (news ++ led)) y r ∧
        At c Lc [(x, some (.int (i : Int) t))] ((D, W.listOf vs n) :: (it, o) :: mu) (new ++ (news ++ (env.locals, oL) :: led)) s₄) (fun _ _ => False) s₃
        else g i = none ∧ At c Lc [(x, some (.int (i : Int) t))] ((D, W.listOf vs n) :: (it, o) :: mu) (news ++ (env.locals, oL) :: led) s₃) (fun _ _ => False) s)
    (hmono : ∀ l l' y v, (∀ p ∈ l, p ∈ l') → rep l y v → rep l' y v)
    (hkind : scope.kind = .function := by kernel_rfl) (hlx : ∀ Lc, (compEnvC scope cl Lc env).kindOf x = some .local := by intro _; kernel_rfl) :
    CompOK c A E env elt (.Name x px) iter ifs scope pos cl [(x, none)] m mu led rep ((List.range N).filterMap g) s := by
  unfold CompOK
  refine hit _ ?_
  intro r t1 t2 t3 s1 S1
  have hrs : Builtin.Range.rangeSize 0 (N : Int) 1 = (N : Int) := by
    unfold Builtin.Range.rangeSize
    rw [if_pos (by decide), Int.ediv_one]
    split <;> omega
  refine it_range S1 (.head _) (by unfold Builtin.Range.small Builtin.Range.rangeFitsLong; rw [hrs]; simp; omega) ?_
  intro it s2 S2
  rw [hrs] at S2
  have S3 : At c env.locals m ((it, rngO 0 (N : Int) 1) :: mu) led s2 := S2.ledSub fun p hp => .tail _ hp
  refine comp_loopT [(x, none)] (fun i v m' => m' = [(x, some v)]) (by intro i v m' e; rw [e]; rfl) (by intro x v h; simp at h) rep g (fun i o => o = rngO (i : Int) ((N : Int) - i) 1) (fun i v => ∃ t, v = .int (i : Int) t) N S3 (by simp) hN hmono ?_ ?_ ?_ ?_ ?_
  · intro Lc lc D vs n news s o i hI S Q' q
    subst hI
    exact wpAny_pyIter_rangeiter (S.muGet (.tail _ (.head _))) q
  · intro Lc lc D vs n oL news s o i hi hI S Q' q
    subst hI
    refine nx_range S (.tail .head) (by omega) ?_
    intro t s' S'
    exact q _ _ _ (by rw [show (i : Int) + 1 = ((i + 1 : Nat) : Int) by omega, show (N : Int) - i - 1 = (N : Int) - ((i + 1 : Nat) : Int) by omega]) ⟨t, rfl⟩ S'
  · intro Lc lc D vs n oL news s o hI S Q' q
    subst hI
    refine nx_rangeEnd S (.tail _ (.head _)) (.cons_cons _ (List.sublist_cons_self _ _)) ?_ hh (by omega) q
    have := S.nod
    simp only [List.map_cons, List.nodup_cons, List.mem_cons, not_or] at this
    simp only [List.map_cons, List.mem_cons, not_or]
    exact ⟨fun e => this.1.1 e.symm, this.2.1⟩
  · intro Lc D vs n oL news s o i v hi hV _ S Q' q
    refine wpAny_of_eq (a := ()) rfl ?_
    exact wpAny_assign_Name (r_store (env := compEnvC scope cl Lc env) S .head (fun s' S' => q _ s' rfl S') hkind (hlx Lc))
  · intro Lc D vs n oL news s o i v m' hi hV hM hnd S
    obtain ⟨t, rfl⟩ := hV
    subst hM
    exact step Lc D vs n oL news it o s i t hi hnd S
/-- a comprehension over a list, any target -/
theorem c_LT {γ : Type} {elt target iter : Expr} {ifs : List Expr} {scope : Scope} {pos : Pos} (S₀ : At c env.locals m mu led s) (cl : List (Str × Addr))
    (lc : Loc) (M : Nat → Value → Loc → Prop) (hMk : ∀ i v m', M i v m' → m'.map (·.1) = lc.map (·.1)) (hlc : ∀ x v, (x, some v) ∈ lc → False)
    (rep : List (Addr × Obj) → γ → Value → Prop) (g : Nat → Option γ) {l : Addr} {ws : List Value} {k : Nat} (hl : Kn c mu led l (W.listOf ws.toArray k))
    (hN : ws.length ≤ 1000000) (hh : A.handled = none)
    (hit : ∀ Q' : Value → Shared → Prop, (∀ s', At c env.locals m mu led s' → Q' (.ref l) s') → wpAny c.M A (eval iter env) Q' E s)
    (hasg : ∀ Lc mu' oL news s i v, ws[i]? = some v → At c Lc lc mu' (news ++ (env.locals, oL) :: led) s → ∀ Q' : Unit → Shared → Prop,
      (∀ m' s', M i v m' → At c Lc m' mu' (news ++ (env.locals, oL) :: led) s' → Q' () s') → wpAny c.M A (assign target (compEnvC scope cl Lc env) v) Q' (fun _ _ => False) s)
    (hgo : ∀ it l i v s, ws[i]? = some v → s.heap.IsListIter it l (i + 1) → ∀ Q' : Unit → Shared → Prop, Q' () s → wpAny c.M A (letOwnedTupleGo target (.ref it) v) Q' (fun _ _ => False) s)
    (step : ∀ Lc D vs n oL news it o s i v m', ws[i]? = some v → M i v m' → (∀ p ∈ news, isDictB p.2 = false) → At c Lc m' ((D, W.listOf vs n) :: (it, o) :: mu) (news ++ (env.locals, oL) :: led) s →
      wpAny c.M A (testsOf ifs (compEnvC scope cl Lc env)) (fun ok s₃ => if ok = true then wpAny c.M A (eval elt (compEnvC scope cl Lc env)) (fun r s₄ => ∃ y new, g i = some y ∧ (∀ p ∈ new, isDictB p.2 = false) ∧ rep (new ++ (news ++ led)) y r ∧
        At c Lc m' ((D, W.listOf vs n) :: (it, o) :: mu) (new ++ (news ++ (env.locals, oL) :: led)) s₄) (fun _ _ => False) s₃
        else g i = none ∧ At c Lc m' ((D, W.listOf vs n) :: (it, o) :: mu) (news ++ (env.locals, oL) :: led) s₃) (fun _ _ => False) s)
    (hmono : ∀ l l' y v, (∀ p ∈ l, p ∈ l') → rep l y v → rep l' y v) :
    CompOK c A E env elt (target) iter ifs scope pos cl lc m mu led rep ((List.range ws.length).filterMap g) s := by
  unfold CompOK
  refine hit _ ?_
  intro s1 S1
  have hlo := S1.kn hl
  have hli : (W.listOf ws.toArray k).cls = .type "list" := rfl
  refine wpAny_pyIter_list ⟨_, hlo, rfl, _, rfl⟩ ?_
  have S3 := S1.pushM (o := { cls := .type "list_iterator", data := .fields #[.ref l, .int 0 0] }) rfl
  refine comp_loopT lc M hMk hlc rep g (fun i o => ItL l i o) (fun i v => ws[i]? = some v) ws.length S3 ⟨rfl, rfl⟩ hN hmono ?_ ?_ ?_ ?_ ?_
  · intro Lc lc D vs n news s o i hI S Q' q
    exact wpAny_pyIter_listiter ⟨o, S.muGet (.tail _ (.head _)), hI⟩ q
  · intro Lc lc D vs n oL news s o i hi hI S Q' q
    have hK : Kn c ((D, W.listOf vs n) :: (s1.heap.objs.size, o) :: mu) (news ++ (env.locals, oL) :: led) l (W.listOf ws.toArray k) := hl.mono (fun p hp => .tail _ (.tail _ hp)) (fun p hp => List.mem_append.mpr (.inr (.tail _ hp)))
    refine nx_list (mu'' := fun o' => (D, W.listOf vs n) :: (s1.heap.objs.size, o') :: mu) S (fun o' => .tail .head) hI (S.knIsSeq hK) (List.getElem?_eq_getElem hi) ?_
    intro o' s' hI' S'
    exact q _ o' s' hI' (List.getElem?_eq_getElem hi) S'
  · intro Lc lc D vs n oL news s o hI S Q' q
    have hK : Kn c ((D, W.listOf vs n) :: (s1.heap.objs.size, o) :: mu) (news ++ (env.locals, oL) :: led) l (W.listOf ws.toArray k) := hl.mono (fun p hp => .tail _ (.tail _ hp)) (fun p hp => List.mem_append.mpr (.inr (.tail _ hp)))
    refine nx_listEnd S (.tail _ (.head _)) hI (.cons_cons _ (List.sublist_cons_self _ _)) ?_ (S.knIsSeq hK) (List.getElem?_eq_none (Nat.le_refl _)) hh q
    have := S.nod
    simp only [List.map_cons, List.nodup_cons, List.mem_cons, not_or] at this
    simp only [List.map_cons, List.mem_cons, not_or]
    exact ⟨fun e => this.1.1 e.symm, this.2.1⟩
  · intro Lc D vs n oL news s o i v hi hV hI S Q' q
    exact hgo _ l i v s hV ⟨o, S.muGet (.tail _ (.head _)), hI⟩ _ (hasg Lc _ oL news s i v hV S Q' q)
  · intro Lc D vs n oL news s o i v m' hi hV hM hnd S
    exact step Lc D vs n oL news _ o s i v m' hV hM hnd S
/-- a comprehension over a list, one name -/
theorem c_L {γ : Type} {elt iter : Expr} {x : Str} {px : Pos} {ifs : List Expr} {scope : Scope} {pos : Pos} (S₀ : At c env.locals m mu led s) (cl : List (Str × Addr))
    (rep : List (Addr × Obj) → γ → Value → Prop) (g : Nat → Option γ) {l : Addr} {ws : List Value} {k : Nat} (hl : Kn c mu led l (W.listOf ws.toArray k))
    (hN : ws.length ≤ 1000000) (hh : A.handled = none)
    (hit : ∀ Q' : Value → Shared → Prop, (∀ s', At c env.locals m mu led s' → Q' (.ref l) s') → wpAny c.M A (eval iter env) Q' E s)
    (step : ∀ Lc D vs n oL news it o s i v, ws[i]? = some v → (∀ p ∈ news, isDictB p.2 = false) → At c Lc [(x, some v)] ((D, W.listOf vs n) :: (it, o) :: mu) (news ++ (env.locals, oL) :: led) s →
      wpAny c.M A (testsOf ifs (compEnvC scope cl Lc env)) (fun ok s₃ => if ok = true then wpAny c.M A (eval elt (compEnvC scope cl Lc env)) (fun r s₄ => ∃ y new, g i = some y ∧ (∀ p ∈ new, isDictB p.2 = false) ∧ rep (new ++ (news ++ led)) y r ∧
        At c Lc [(x, some v)] ((D, W.listOf vs n) :: (it, o) :: mu) (new ++ (news ++ (env.locals, oL) :: led)) s₄) (fun _ _ => False) s₃
        else g i = none ∧ At c Lc [(x, some v)] ((D, W.listOf vs n) :: (it, o) :: mu) (news ++ (env.locals, oL) :: led) s₃) (fun _ _ => False) s)
    (hmono : ∀ l l' y v, (∀ p ∈ l, p ∈ l') → rep l y v → rep l' y v)
    (hkind : scope.kind = .function := by kernel_rfl) (hlx : ∀ Lc, (compEnvC scope cl Lc env).kindOf x = some .local := by intro _; kernel_rfl) :
    CompOK c A E env elt (.Name x px) iter ifs scope pos cl [(x, none)] m mu led rep ((List.range ws.length).filterMap g) s := by
  refine c_LT S₀ cl [(x, none)] (fun i v m' => m' = [(x, some v)]) (by intro i v m' e; rw [e]; rfl) (by intro x v h; simp at h) rep g hl hN hh hit ?_ (fun _ _ _ _ _ _ _ _ q => wpAny_of_eq (a := ()) rfl q) ?_ hmono
  · intro Lc mu' oL news s i v hv S Q' q
    exact wpAny_assign_Name (r_store (env := compEnvC scope cl Lc env) S .head (fun s' S' => q _ s' rfl S') hkind (hlx Lc))
  · intro Lc D vs n oL news it o s i v m' hv hM hnd S
    subst hM
    exact step Lc D vs n oL news it o s i v hv hnd S
/-- a comprehension over a list of pairs -/
theorem c_P {γ : Type} {elt iter : Expr} {x y : Str} {px py pt : Pos} {kt : Nat} {ifs : List Expr} {scope : Scope} {pos : Pos} (S₀ : At c env.locals m mu led s) (cl : List (Str × Addr))
    (rep : List (Addr × Obj) → γ → Value → Prop) (g : Nat → Option γ) {l : Addr} {ws : List Value} {k : Nat} (hl : Kn c mu led l (W.listOf ws.toArray k)) (P : Nat → Value → Value → Prop)
    (hp : ∀ i v, ws[i]? = some v → ∃ a v1 v2, v = .ref a ∧ (a, tupO [v1, v2]) ∈ led ∧ P i v1 v2)
    (hN : ws.length ≤ 1000000) (hh : A.handled = none)
    (hit : ∀ Q' : Value → Shared → Prop, (∀ s', At c env.locals m mu led s' → Q' (.ref l) s') → wpAny c.M A (eval iter env) Q' E s)
    (step : ∀ Lc D vs n oL news it o s i v1 v2, i < ws.length → P i v1 v2 → (∀ p ∈ news, isDictB p.2 = false) → At c Lc [(x, some v1), (y, some v2)] ((D, W.listOf vs n) :: (it, o) :: mu) (news ++ (env.locals, oL) :: led) s →
      wpAny c.M A (testsOf ifs (compEnvC scope cl Lc env)) (fun ok s₃ => if ok = true then wpAny c.M A (eval elt (compEnvC scope cl Lc env)) (fun r s₄ => ∃ z new, g i = some z ∧ (∀ p ∈ new, isDictB p.2 = false) ∧ rep (new ++ (news ++ led)) z r ∧
        At c Lc [(x, some v1), (y, some v2)] ((D, W.listOf vs n) :: (it, o) :: mu) (new ++ (news ++ (env.locals, oL) :: led)) s₄) (fun _ _ => False) s₃
        else g i = none ∧ At c Lc [(x, some v1), (y, some v2)] ((D, W.listOf vs n) :: (it, o) :: mu) (news ++ (env.locals, oL) :: led) s₃) (fun _ _ => False) s)
    (hmono : ∀ l l' y v, (∀ p ∈ l, p ∈ l') → rep l y v → rep l' y v)
    (hkind : scope.kind = .function := by kernel_rfl) (hlx : ∀ Lc, (compEnvC scope cl Lc env).kindOf x = some .local := by intro _; kernel_rfl) (hly : ∀ Lc, (compEnvC scope cl Lc env).kindOf y = some .local := by intro _; kernel_rfl) :
    CompOK c A E env elt (.Tuple [.Name x px, .Name y py] kt pt) iter ifs scope pos cl [(x, none), (y, none)] m mu led rep ((List.range ws.length).filterMap g) s := by
  refine c_LT S₀ cl [(x, none), (y, none)] (fun i v m' => ∃ v1 v2, P i v1 v2 ∧ m' = [(x, some v1), (y, some v2)]) (by rintro i v m' ⟨v1, v2, _, e⟩; rw [e]; rfl) (by intro x v h; simp at h) rep g hl hN hh hit ?_ ?_ ?_ hmono
  · intro Lc mu' oL news s i v hv S Q' q
    obtain ⟨a, v1, v2, rfl, ha, hP⟩ := hp i v hv
    refine r_unpack S hh (List.mem_append.mpr (.inr (.tail _ ha))) ?_
    intro s1 S1
    refine assignInOrder_cons ?_
    refine assign_Name (r_store (env := compEnvC scope cl Lc env) S1 .head ?_ hkind (hlx Lc))
    intro s2 S2
    refine assignInOrder_cons ?_
    refine assign_Name (r_store (env := compEnvC scope cl Lc env) S2 (.tail .head) ?_ hkind (hly Lc))
    intro s3 S3
    exact assignInOrder_nil (q _ s3 ⟨v1, v2, hP, rfl⟩ S3)
  · intro it l i v s hv hit Q' q
    obtain ⟨a, v1, v2, rfl, ha, hP⟩ := hp i v hv
    exact wpAny_letOwnedTupleGo_listiter hit q
  · intro Lc D vs n oL news it o s i v m' hv hM hnd S
    obtain ⟨v1, v2, hP, rfl⟩ := hM
    refine step Lc D vs n oL news it o s i v1 v2 ?_ hP hnd S
    rcases Nat.lt_or_ge i ws.length with z | z
    · exact z
    · rw [List.getElem?_eq_none z] at hv; cases hv
end
/- Fw31 -/
set_option autoImplicit false
section
variable {c : Cx} {L : Addr} {m : Loc} {mu mu' led led' : List (Addr × Obj)} {s : Shared} {A : Around} {E : Value → Shared → Prop} {env : Env} {Q : Value → Shared → Prop} {d : Nat}
/-- a def with cells -/
theorem r_defK {f : Addr} {args : List Value} {fd : FuncData} {body : List Stmt} {binds : List (Str × Value)} (S : At c L m mu led s) (hA : AOk A d) (hd : d ≤ 480)
    (ho : c.K.lookup f = some { cls := .type "function", data := .func fd }) (hcode : codeIn c.K fd.code fd.qualname = true) (hbody : fd.body = .stmts body) (hbind : bindArgs fd ⟨args, []⟩ = pure binds) (hclo : fd.closure = [])
    (cells : Addr → List (Str × Addr)) (cm : Addr → List (Addr × Obj)) (hcs : ∀ n, cellsFrom n fd.scope.names [] = cells n) (hcm : ∀ n, cellsMu (cells n) (bindC (fun y => fd.scope.names.lookup y) binds fun _ => none) = cm n)
    (hkind : ∀ n, ∀ x ∈ binds, fd.scope.names.lookup x.1 = some .local ∨ (fd.scope.names.lookup x.1 = some .cell ∧ ((cellsFrom n fd.scope.names []).lookup x.1).isSome = true))
    (hnn : nodupB ((cellsFrom 0 fd.scope.names []).map (·.1)) = true)
    (l : Loc) (hnd : nodupB (l.map (·.1)) = true) (hl : LocOk (bindL (fun y => fd.scope.names.lookup y) binds (fun _ => none)) l)
    (hco : fd.scope.isCoroutine = false) (hgen : fd.scope.isGenerator = false) (hk : fd.scope.kind = .function)
    (h : ∀ L' oL s', At c L' l (cm (L' + 1) ++ mu) ((L, oL) :: led) s' → Backs c L m oL → AOk (A.deeper (fenv fd L' f (cells (L' + 1)))) (d + 1) →
      wpAny c.M (A.deeper (fenv fd L' f (cells (L' + 1)))) (execs body (fenv fd L' f (cells (L' + 1)))) (fun fl s' => Q (retOf fl) s') (fun _ _ => False) s') :
    wpAny c.M A (call (.ref f) args) Q E s := by
  refine r_defC S hA hd ho hcode hbody hbind hclo hkind hnn l hnd hl hco hgen hk ?_
  intro L' oL s'
  rw [hcs, hcm]
  exact h L' oL s'
theorem At.baseList (S : At c L m mu led s) {a : Addr} {items : Array Value} (h : c.base.IsList a items) (hn : a ∉ c.tabs.map (·.2.1)) : s.heap.IsList a items := let ⟨o, ho, r⟩ := h; ⟨o, S.keep _ _ ho hn, r⟩
theorem r_addLL {a b : Addr} {vs ws : List Value} (S : At c L m mu led s) (hl : s.heap.IsList a vs.toArray) (hb : s.heap.IsList b ws.toArray) (hz : vs.length + ws.length ≤ 1000000)
    (h : ∀ r s', At c L m ((r, W.listOf (vs ++ ws).toArray 0) :: mu) led s' → Q (.ref r) s') : wpAny c.M A (binaryOp .Add (.ref a) (.ref b)) Q E s := by
  have S1 := S.pushM (o := W.listOf (vs ++ ws).toArray 0) rfl
  have hsz : vs.length + ws.length ≤ sizeLine := le_sz (by omega)
  obtain ⟨⟨cls, dd, data, sl⟩, ho, hc, n, hd⟩ := id hl
  obtain ⟨⟨cls2, dd2, data2, sl2⟩, ho2, hc2, n2, hd2⟩ := id hb
  simp only at hc hd hc2 hd2
  subst hc hd hc2 hd2
  have e : vs.toArray ++ ws.toArray = (vs ++ ws).toArray := by simp
  refine concat_meets ⟨_, ho, rfl⟩ ⟨_, ho2, rfl⟩ noFill_list_add seq_list_add PySem.F.slot_list_add PySem.F.entry_list_add (PySem.F.args_list_add_2 _ _) (list_addW a b vs.toArray ws.toArray n n2 dd dd2 sl sl2 (by simpa using hsz)) ⟨ho, ho2, ?_⟩
  rw [e]
  exact h _ _ S1
theorem r_lenLL {b : Addr} {vs : List Value} (S : At c L m mu led s) (hb : s.heap.IsList b vs.toArray) (hz : vs.length ≤ 1000000)
    (h : ∀ t s', At c L m mu led s' → Q (.int vs.length t) s') : wpAny c.M A (call (.builtin "len") [.ref b]) Q E s := by
  refine call_len_list hb (by rw [List.size_toArray]; omega) ?_
  rw [List.size_toArray]
  exact h _ _ (S.toks _)
theorem r_sliceLL {value slice : Expr} {a q : Addr} {vs : List Value} {vl vu : Value} {lo hi : Option Int} (ws : List Value) (S : At c L m mu led s) (ha : s.heap.IsList a vs.toArray) (hq : (q, sliceO vl vu .none) ∈ led) (pl : IsPart vl lo) (pu : IsPart vu hi)
    (hz : vs.length ≤ 1000000) (e : slicePick vs.toArray lo hi none = ws.toArray) {ops : List Value} (hs : subscripted slice false (.ref a) (.ref q) = operate ops (getItem (.ref a) (.ref q)))
    (h : ∀ b s', At c L m ((b, W.listOf ws.toArray 0) :: mu) led s' → Q (.ref b) s') : wpAny c.M A (subscriptTail value slice (.ref a) (.ref q)) Q E s := by
  obtain ⟨o, ho, hc, n, hd⟩ := ha
  refine LL.tail S.inK (LL.list ho hc) hs (r_slice S (LL.list ho hc) ho hd hq pl pu hz ?_)
  rw [e]
  exact h
theorem slicePick_to' (vs : List Value) (k : Nat) : slicePick vs.toArray none (some (k : Int)) none = (vs.take k).toArray := slicePick_to vs k
theorem reps_all {γ : Type} (g : Nat → γ) (N : Nat) : (List.range N).filterMap (fun k => some (g k)) = (List.range N).map g := by simp
theorem At.muSub (S : At c L m mu led s) (h : mu'.Sublist mu) : At c L m mu' led s :=
  { S with
    hmu := fun q hq => S.hmu q (h.subset hq)
    nod := (h.map _).nodup S.nod
    hled := fun q hq => ⟨(S.hled q hq).1, (S.hled q hq).2.1, fun x => (S.hled q hq).2.2.1 ((h.map _).subset x), (S.hled q hq).2.2.2⟩ }
theorem At.pick (S : At c L m mu led s) (hm : mu'.Sublist mu := by walk_at "subl") (hl : led'.Sublist led := by walk_at "subl") : At c L m mu' led' s := (S.muSub hm).ledSub fun _ hp => hl.subset hp
theorem it_rangeN {r : Addr} {a n : Int} {N : Nat} {t u v : Tok} (S : At c L m mu ((r, rangeO a n 1 t u v) :: led) s) (e : n - a = (N : Int)) (ha : a.natAbs ≤ 1000000) (hN : N ≤ 1000000) (h : ∀ it s', At c L m ((it, rngO a (N : Int) 1) :: mu) led s' → Q (.ref it) s') : wpAny c.M A (pyIter (.ref r)) Q E s := by
  have hrs : Builtin.Range.rangeSize a n 1 = (N : Int) := by
    unfold Builtin.Range.rangeSize
    rw [if_pos (by decide), Int.ediv_one]
    split <;> omega
  refine it_range S (.head _) (by unfold Builtin.Range.small Builtin.Range.rangeFitsLong; rw [hrs]; simp; omega) ?_
  intro it s' S'
  rw [hrs] at S'
  exact h it s' (S'.ledSub fun p hp => .tail _ hp)
theorem mem_le_sum {l : List Nat} {x : Nat} (h : x ∈ l) : x ≤ l.sum := by
  induction l with
  | nil => cases h
  | cons a l ih =>
    rw [List.sum_cons]
    rcases List.mem_cons.mp h with rfl | h
    · omega
    · have := ih h; omega
theorem getD_mem' {l : List Nat} {i : Nat} (h : i < l.length) : l.getD i 0 ∈ l := by
  rw [List.getD_eq_getElem?_getD, List.getElem?_eq_getElem h]; exact List.getElem_mem _
theorem lt_of_some {α : Type} {l : List α} {i : Nat} {v : α} (h : l[i]? = some v) : i < l.length := by
  rcases Nat.lt_or_ge i l.length with q | q
  · exact q
  · rw [List.getElem?_eq_none q] at h; cases h
/-- tests: none, one -/
theorem t_nil {Q : Bool → Shared → Prop} (h : Q true s) : wpAny c.M A (testsOf [] env) Q E s := wpAny_pure h
theorem t_one {t : Expr} {Q : Bool → Shared → Prop} (h : wpAny c.M A (isTrue t env (eval t env)) Q E s) : wpAny c.M A (testsOf [t] env) Q E s := wpAny_tests_one h
end
/- Fw32 -/
set_option autoImplicit false
def fnd1 (text : Array Nat) (s : Nat) : Option (Nat × Nat) := (find1 text (text.size - s) s).map fun p => (p, p + 1)
def fnd2 (text : Array Nat) (s : Nat) : Option (Nat × Nat) := (find2 text (text.size - s) s).map fun q => (q, end2 text q)
theorem find1_at {text : Array Nat} : ∀ (n s p : Nat), text.size - s = n → find1 text n s = some p → s ≤ p ∧ p < text.size
  | 0, _, _, _, h => nomatch h
  | n + 1, s, p, hn, h => by
    unfold find1 at h
    split at h
    · cases h; omega
    · have := find1_at n (s + 1) p (by omega) h; omega
theorem find2_ge {text : Array Nat} : ∀ (n s p : Nat), text.size - s = n → find2 text n s = some p → s ≤ p ∧ p < text.size
  | 0, _, _, _, h => nomatch h
  | n + 1, s, p, hn, h => by
    unfold find2 at h
    split at h
    · cases h; omega
    · have := find2_ge n (s + 1) p (by omega) h; omega
theorem end2_le {text : Array Nat} {p : Nat} (h : p < text.size) : p < end2 text p ∧ end2 text p ≤ text.size := by
  unfold end2
  by_cases hc : (text.getD p 0 == 13 && (decide (p + 1 < text.size) && text.getD (p + 1) 0 == 10)) = true
  · rw [if_pos hc]
    have := of_decide_eq_true (Bool.and_eq_true_iff.mp (Bool.and_eq_true_iff.mp hc).2).1
    omega
  · rw [if_neg hc]
    omega
/-- what quotedata makes of a text -/
def crlfP (x : Str) : Str := Str.join "" (subPieces fnd2 "\r\n" x.cps (x.cps.size + 1) 0)
def quoteP (x : Str) : Str := Str.join "" (subPieces fnd1 ".." (crlfP x).cps ((crlfP x).cps.size + 1) 0)
/-! the same, on lists -/
def crlfL : List Nat → List Nat
  | [] => []
  | 13 :: 10 :: r => 13 :: 10 :: crlfL r
  | c :: r => if c = 10 ∨ c = 13 then 13 :: 10 :: crlfL r else c :: crlfL r
def stuffL : Bool → List Nat → List Nat
  | _, [] => []
  | b, c :: r => if b && c == 46 then 46 :: 46 :: stuffL false r else c :: stuffL (c == 10) r
def quoteL (l : List Nat) : List Nat := stuffL true (crlfL l)
def flatS (ps : List Str) : List Nat := (ps.map (·.cps.toList)).flatten
theorem flatS_append (a b : List Str) : flatS (a ++ b) = flatS a ++ flatS b := by simp [flatS]
theorem flatS_cons (a : Str) (b : List Str) : flatS (a :: b) = a.cps.toList ++ flatS b := by simp [flatS]
theorem join_flat : ∀ ps : List Str, (Str.join "" ps).cps.toList = flatS ps
  | [] => by decide +kernel
  | [x] => by simp [Str.join, flatS]
  | x :: y :: r => by
    show (x ++ "" ++ Str.join "" (y :: r)).cps.toList = _
    rw [Str.cps_append, Array.toList_append, join_flat (y :: r), Str.cps_append, Array.toList_append, flatS_cons x]
    have : ("" : Str).cps.toList = [] := by decide +kernel
    rw [this, List.append_nil]
theorem crlfL_plain : ∀ (l r : List Nat), (∀ c ∈ l, c ≠ 10 ∧ c ≠ 13) → crlfL (l ++ r) = l ++ crlfL r
  | [], r, _ => rfl
  | c :: l, r, h => by
    have hc := h c (.head _)
    have e : crlfL (c :: (l ++ r)) = c :: crlfL (l ++ r) := by
      rw [crlfL.eq_3 c (l ++ r) (by intro r' h1 _; exact hc.2 h1), if_neg (fun q => q.elim hc.1 hc.2)]
    show crlfL (c :: (l ++ r)) = _
    rw [e, crlfL_plain l r fun x hx => h x (.tail _ hx)]
    rfl
theorem getD_toList (text : Array Nat) (i : Nat) : text.getD i 0 = text.toList.getD i 0 := by
  rw [List.getD_eq_getElem?_getD]; simp
theorem drop_cons (text : Array Nat) {i : Nat} (h : i < text.size) : text.toList.drop i = text.getD i 0 :: text.toList.drop (i + 1) := by
  have h' : i < text.toList.length := by simpa using h
  rw [List.drop_eq_getElem_cons h', getD_toList, List.getD_eq_getElem?_getD, List.getElem?_eq_getElem h']; rfl
theorem extract_drop (text : Array Nat) {a b : Nat} (h : a ≤ b) (hb : b ≤ text.size) : text.toList.drop a = (text.extract a b).toList ++ text.toList.drop b := by
  rw [Array.toList_extract, List.extract_eq_take_drop]
  have e : text.toList.drop b = (text.toList.drop a).drop (b - a) := by rw [List.drop_drop]; congr 1; omega
  rw [e, List.take_append_drop]
theorem find2_plain {text : Array Nat} : ∀ (n s p : Nat), text.size - s = n → find2 text n s = some p → ∀ i, s ≤ i → i < p → text.getD i 0 ≠ 10 ∧ text.getD i 0 ≠ 13
  | 0, _, _, _, h, _, _, _ => nomatch h
  | n + 1, s, p, hn, h, i, h1, h2 => by
    unfold find2 at h
    split at h
    · cases h; omega
    · rename_i q
      by_cases e : i = s
      · subst e
        simp only [Bool.or_eq_true, beq_iff_eq, not_or] at q
        exact q
      · exact find2_plain n (s + 1) p (by omega) h i (by omega) h2
theorem find2_none {text : Array Nat} : ∀ (n s : Nat), text.size - s = n → find2 text n s = none → ∀ i, s ≤ i → i < text.size → text.getD i 0 ≠ 10 ∧ text.getD i 0 ≠ 13
  | 0, s, hn, _, i, h1, h2 => by omega
  | n + 1, s, hn, h, i, h1, h2 => by
    unfold find2 at h
    split at h
    · cases h
    · rename_i q
      by_cases e : i = s
      · subst e
        simp only [Bool.or_eq_true, beq_iff_eq, not_or] at q
        exact q
      · exact find2_none n (s + 1) (by omega) h i (by omega) h2
theorem mem_extract {text : Array Nat} {a b : Nat} (hb : b ≤ text.size) {c : Nat} (h : c ∈ (text.extract a b).toList) : ∃ i, a ≤ i ∧ i < b ∧ text.getD i 0 = c := by
  obtain ⟨j, hj⟩ := List.getElem?_of_mem h
  have hl : j < (text.extract a b).toList.length := (List.getElem?_eq_some_iff.mp hj).1
  simp only [Array.length_toList, Array.size_extract] at hl
  refine ⟨a + j, by omega, by omega, ?_⟩
  rw [Array.toList_extract, List.extract_eq_take_drop, List.getElem?_take_of_lt (by omega), List.getElem?_drop] at hj
  rw [getD_toList, List.getD_eq_getElem?_getD, hj]; rfl
theorem crlf_from (text : Array Nat) : ∀ (fuel pos : Nat), pos ≤ text.size → text.size - pos < fuel → flatS (subPieces fnd2 "\r\n" text fuel pos) = crlfL (text.toList.drop pos)
  | 0, _, _, h => by omega
  | fuel + 1, pos, hp, hf => by
    unfold subPieces
    cases hq : fnd2 text pos with
    | none =>
      have hn : find2 text (text.size - pos) pos = none := by
        unfold fnd2 at hq
        cases e : find2 text (text.size - pos) pos with
        | none => rfl
        | some p => rw [e] at hq; cases hq
      have pl := find2_none _ _ rfl hn
      have e := crlfL_plain (text.extract pos text.size).toList [] fun c hc => by
        obtain ⟨i, h1, h2, rfl⟩ := mem_extract (Nat.le_refl _) hc
        exact pl i h1 h2
      have e0 : text.toList.drop pos = (text.extract pos text.size).toList := by
        rw [extract_drop text hp (Nat.le_refl _)]
        rw [List.drop_of_length_le (by simp), List.append_nil]
      rw [List.append_nil] at e
      rw [e0, e]
      dsimp only
      split
      · simp [flatS, crlfL]
      · have : pos = text.size := by omega
        subst this
        simp [flatS, crlfL]
    | some pe =>
      obtain ⟨p, e⟩ := pe
      have hfd : ∃ q, find2 text (text.size - pos) pos = some q ∧ p = q ∧ e = end2 text q := by
        unfold fnd2 at hq
        cases e : find2 text (text.size - pos) pos with
        | none => rw [e] at hq; cases hq
        | some q => rw [e] at hq; cases hq; exact ⟨_, rfl, rfl, rfl⟩
      obtain ⟨q, hs, rfl, rfl⟩ := hfd
      have hge := find2_ge _ _ _ rfl hs
      have hen := end2_le hge.2
      have hat := find2_at _ _ _ rfl hs
      have pl := find2_plain _ _ _ rfl hs
      have ih := crlf_from text fuel (end2 text p) hen.2 (by omega)
      dsimp only
      rw [flatS_append, flatS_append, ih]
      have e0 := extract_drop text hge.1 (Nat.le_of_lt hge.2)
      have e1 := crlfL_plain (text.extract pos p).toList (text.toList.drop p) fun c hc => by
        obtain ⟨i, h1, h2, rfl⟩ := mem_extract (Nat.le_of_lt hge.2) hc
        exact pl i h1 h2
      have e2 : flatS (if pos < p then [⟨text.extract pos p⟩] else []) = (text.extract pos p).toList := by
        split
        · simp [flatS]
        · have : p = pos := by omega
          subst this
          simp [flatS]
      have e3 : crlfL (text.toList.drop p) = [13, 10] ++ crlfL (text.toList.drop (end2 text p)) := by
        rw [drop_cons text hge.2]
        unfold end2
        by_cases hc : (text.getD p 0 == 13 && (decide (p + 1 < text.size) && text.getD (p + 1) 0 == 10)) = true
        · rw [if_pos hc]
          simp only [Bool.and_eq_true, beq_iff_eq, decide_eq_true_eq] at hc
          rw [hc.1, drop_cons text hc.2.1, hc.2.2]
          rfl
        · rw [if_neg hc]
          rw [crlfL.eq_3, if_pos hat.2]
          · rfl
          · intro r' h1 h2
            apply hc
            have hlt : p + 1 < text.size := by
              rcases Nat.lt_or_ge (p + 1) text.size with z | z
              · exact z
              · rw [List.drop_of_length_le (by simpa using z)] at h2; cases h2
            rw [drop_cons text hlt] at h2
            have := (List.cons.inj h2).1
            simp [h1, this, hlt]
      rw [e2, e0, e1, e3]
      have e4 : flatS ["\r\n"] = [13, 10] := by decide +kernel
      rw [e4, List.append_assoc]
theorem crlfP_list (x : Str) : (crlfP x).cps.toList = crlfL x.cps.toList := by
  unfold crlfP
  rw [join_flat, crlf_from x.cps _ 0 (Nat.zero_le _) (by omega), List.drop_zero]
theorem bol_succ (text : Array Nat) (s : Nat) : bol text (s + 1) = (text.getD s 0 == 10) := by
  unfold bol
  simp
theorem stuff_skip {text : Array Nat} : ∀ (n s p : Nat), text.size - s = n → find1 text n s = some p → stuffL (bol text s) (text.toList.drop s) = (text.extract s p).toList ++ ([46, 46] ++ stuffL (bol text (p + 1)) (text.toList.drop (p + 1)))
  | 0, _, _, _, h => nomatch h
  | n + 1, s, p, hn, h => by
    unfold find1 at h
    split at h
    · rename_i q
      cases h
      have hlt : s < text.size := by omega
      rw [drop_cons text hlt]
      simp only [Bool.and_eq_true, beq_iff_eq] at q
      have e1 : (text.extract s s).toList = [] := by simp
      rw [e1, List.nil_append]
      show (if (bol text s && text.getD s 0 == 46) = true then _ else _) = _
      rw [if_pos (by simp [q.1, q.2]), bol_succ, q.2]
      rfl
    · rename_i q
      have hlt : s < text.size := by omega
      have ih := stuff_skip n (s + 1) p (by omega) h
      have hge := find1_at n (s + 1) p (by omega) h
      rw [drop_cons text hlt]
      show (if (bol text s && text.getD s 0 == 46) = true then _ else _) = _
      rw [if_neg q, ← bol_succ, ih]
      have e : (text.extract s p).toList = text.getD s 0 :: (text.extract (s + 1) p).toList := by
        have h1 := extract_drop text (a := s) (b := p) (by omega) (by omega)
        rw [drop_cons text hlt, extract_drop text (a := s + 1) (b := p) (by omega) (by omega), ← List.cons_append] at h1
        exact (List.append_cancel_right h1).symm
      rw [e]; rfl
theorem stuff_none {text : Array Nat} : ∀ (n s : Nat), text.size - s = n → find1 text n s = none → stuffL (bol text s) (text.toList.drop s) = text.toList.drop s
  | 0, s, hn, _ => by
    rw [List.drop_of_length_le (by simp; omega)]
    unfold stuffL; rfl
  | n + 1, s, hn, h => by
    unfold find1 at h
    split at h
    · cases h
    · rename_i q
      have hlt : s < text.size := by omega
      have ih := stuff_none n (s + 1) (by omega) h
      rw [drop_cons text hlt]
      show (if (bol text s && text.getD s 0 == 46) = true then _ else _) = _
      rw [if_neg q, ← bol_succ, ih]
theorem stuff_from (text : Array Nat) : ∀ (fuel pos : Nat), pos ≤ text.size → text.size - pos < fuel → flatS (subPieces fnd1 ".." text fuel pos) = stuffL (bol text pos) (text.toList.drop pos)
  | 0, _, _, h => by omega
  | fuel + 1, pos, hp, hf => by
    unfold subPieces
    cases hq : fnd1 text pos with
    | none =>
      have hn : find1 text (text.size - pos) pos = none := by
        unfold fnd1 at hq
        cases e : find1 text (text.size - pos) pos with
        | none => rfl
        | some p => rw [e] at hq; cases hq
      rw [stuff_none _ _ rfl hn]
      have e0 : text.toList.drop pos = (text.extract pos text.size).toList := by
        rw [extract_drop text hp (Nat.le_refl _)]
        rw [List.drop_of_length_le (by simp), List.append_nil]
      rw [e0]
      dsimp only
      split
      · simp [flatS]
      · have : pos = text.size := by omega
        subst this
        simp [flatS]
    | some pe =>
      obtain ⟨p, e⟩ := pe
      have hfd : find1 text (text.size - pos) pos = some p ∧ e = p + 1 := by
        unfold fnd1 at hq
        cases e : find1 text (text.size - pos) pos with
        | none => rw [e] at hq; cases hq
        | some q => rw [e] at hq; cases hq; exact ⟨rfl, rfl⟩
      obtain ⟨hs, rfl⟩ := hfd
      have hge := find1_at _ _ _ rfl hs
      have ih := stuff_from text fuel (p + 1) (by omega) (by omega)
      dsimp only
      rw [flatS_append, flatS_append, ih, stuff_skip _ _ _ rfl hs]
      have e2 : flatS (if pos < p then [⟨text.extract pos p⟩] else []) = (text.extract pos p).toList := by
        split
        · simp [flatS]
        · have : p = pos := by omega
          subst this
          simp [flatS]
      have e4 : flatS [".."] = [46, 46] := by decide +kernel
      rw [e2, e4, List.append_assoc]
theorem quoteP_list (x : Str) : (quoteP x).cps.toList = quoteL x.cps.toList := by
  unfold quoteP quoteL
  rw [join_flat, stuff_from (crlfP x).cps _ 0 (Nat.zero_le _) (by omega), List.drop_zero, crlfP_list]
  rfl
/- Fw33 -/
set_option autoImplicit false
/-! rows -/
def Flat (row : List Nat) : Prop := ∀ c ∈ row, c ≠ 10 ∧ c ≠ 13
inductive IsEnd : List Nat → Prop where
  | lf : IsEnd [10]
  | cr : IsEnd [13]
  | both : IsEnd [13, 10]
theorem crlf_row {row sep rest : List Nat} (h : Flat row) (hs : IsEnd sep) (hr : rest.head? ≠ some 10) : crlfL (row ++ (sep ++ rest)) = row ++ (13 :: 10 :: crlfL rest) := by
  rw [crlfL_plain _ _ h]
  congr 1
  cases hs with
  | lf =>
    show crlfL (10 :: rest) = _
    rw [crlfL.eq_3 10 rest (by intro r h1 _; cases h1), if_pos (.inl rfl)]
  | cr =>
    show crlfL (13 :: rest) = _
    rw [crlfL.eq_3 13 rest (by intro r _ h2; rw [h2] at hr; exact hr rfl), if_pos (.inr rfl)]
  | both => rfl
theorem crlf_last {row : List Nat} (h : Flat row) : crlfL row = row := by
  have := crlfL_plain row [] h
  rw [List.append_nil] at this
  rw [this]; simp [crlfL]
def stuffRow : List Nat → List Nat
  | 46 :: r => 46 :: 46 :: r
  | r => r
theorem stuff_false : ∀ (row rest : List Nat), (∀ c ∈ row, c ≠ 10) → row ≠ [] → stuffL false (row ++ rest) = row ++ stuffL false rest
  | [], _, _, h => absurd rfl h
  | c :: r, rest, h, _ => by
    show (if (false && c == 46) = true then _ else _) = _
    rw [if_neg (by simp)]
    have hc : (c == 10) = false := by simpa using h c (.head _)
    rw [hc]
    cases r with
    | nil => rfl
    | cons d r' =>
      show c :: stuffL false ((d :: r') ++ rest) = _
      rw [stuff_false (d :: r') rest (fun x hx => h x (.tail _ hx)) (by simp)]
      rfl
theorem stuff_false' (row rest : List Nat) (h : ∀ c ∈ row, c ≠ 10) : stuffL false (row ++ rest) = row ++ stuffL false rest := by
  cases row with
  | nil => rfl
  | cons c r => exact stuff_false _ _ h (by simp)
theorem stuff_row {row rest : List Nat} (h : Flat row) : stuffL true (row ++ (13 :: 10 :: rest)) = stuffRow row ++ (13 :: 10 :: stuffL true rest) := by
  have tl : stuffL false (13 :: 10 :: rest) = 13 :: 10 :: stuffL true rest := rfl
  cases row with
  | nil => rfl
  | cons c r =>
    have hr : ∀ x ∈ r, x ≠ 10 := fun x hx => (h x (.tail _ hx)).1
    by_cases hc : c = 46
    · subst hc
      show 46 :: 46 :: stuffL false (r ++ _) = _
      rw [stuff_false' r _ hr, tl]; rfl
    · have e1 : (true && c == 46) = false := by simpa using hc
      have e2 : (c == 10) = false := by simpa using (h c (.head _)).1
      show (if (true && c == 46) = true then _ else _) = _
      rw [if_neg (by rw [e1]; decide), e2, show (r.append (13 :: 10 :: rest)) = r ++ (13 :: 10 :: rest) from rfl, stuff_false' r _ hr, tl]
      have e3 : stuffRow (c :: r) = c :: r := by
        unfold stuffRow
        split
        · rename_i q; exact absurd (List.cons.inj q).1 hc
        · rfl
      rw [e3]; rfl
theorem stuff_last {row : List Nat} (h : Flat row) : stuffL true row = stuffRow row := by
  have fr : ∀ r : List Nat, (∀ x ∈ r, x ≠ 10) → stuffL false r = r := fun r hr => by
    have := stuff_false' r [] hr
    rw [List.append_nil] at this
    rw [this]; simp [stuffL]
  cases row with
  | nil => rfl
  | cons c r =>
    have hr : ∀ x ∈ r, x ≠ 10 := fun x hx => (h x (.tail _ hx)).1
    by_cases hc : c = 46
    · subst hc
      show 46 :: 46 :: stuffL false r = _
      rw [fr r hr]; rfl
    · have e1 : (true && c == 46) = false := by simpa using hc
      have e2 : (c == 10) = false := by simpa using (h c (.head _)).1
      show (if (true && c == 46) = true then _ else _) = _
      rw [if_neg (by rw [e1]; decide), e2, fr r hr]
      unfold stuffRow
      split
      · rename_i q; exact absurd (List.cons.inj q).1 hc
      · rfl
/-- rows, each ended -/
def rowsL (rows : List (List Nat)) : List Nat := (rows.map (· ++ [13, 10])).flatten
theorem quote_row {row sep rest : List Nat} (h : Flat row) (hs : IsEnd sep) (hr : rest.head? ≠ some 10) : quoteL (row ++ (sep ++ rest)) = stuffRow row ++ (13 :: 10 :: quoteL rest) := by
  unfold quoteL
  rw [crlf_row h hs hr, stuff_row h]
theorem quote_last {row : List Nat} (h : Flat row) : quoteL row = stuffRow row := by
  unfold quoteL
  rw [crlf_last h, stuff_last h]
theorem quote_rows : ∀ (rows : List (List Nat × List Nat)) (rest : List Nat), (∀ p ∈ rows, Flat p.1 ∧ IsEnd p.2 ∧ p.1 ≠ []) → rest.head? ≠ some 10 →
    quoteL ((rows.map fun p => p.1 ++ p.2).flatten ++ rest) = rowsL (rows.map fun p => stuffRow p.1) ++ quoteL rest
  | [], rest, _, _ => rfl
  | p :: rows, rest, h, hr => by
    have hp := h p (.head _)
    have ih := quote_rows rows rest (fun q hq => h q (.tail _ hq)) hr
    have hh : ((rows.map fun p => p.1 ++ p.2).flatten ++ rest).head? ≠ some 10 := by
      cases rows with
      | nil => exact hr
      | cons q rows =>
        have hq := h q (.tail _ (.head _))
        obtain ⟨c, l, e⟩ := List.exists_cons_of_ne_nil hq.2.2
        simp only [List.map_cons, List.flatten_cons, e, List.cons_append, List.head?_cons]
        intro z
        exact (hq.1 c (by rw [e]; exact .head _)).1 (Option.some.inj z)
    rw [List.map_cons, List.flatten_cons, List.append_assoc, List.append_assoc, quote_row hp.1 hp.2.1 hh, ih]
    simp [rowsL]
/-! a text cut -/
theorem join_cons (y p q : Str) (r : List Str) : (Str.join y (p :: q :: r)).cps.toList = p.cps.toList ++ (y.cps.toList ++ (Str.join y (q :: r)).cps.toList) := by
  show (p ++ y ++ Str.join y (q :: r)).cps.toList = _
  simp [Str.cps_append]
theorem free_cut {c : Nat} : ∀ {p q x y : List Nat}, c ∉ p → c ∉ q → p ++ c :: x = q ++ c :: y → p = q ∧ x = y
  | [], [], _, _, _, _, h => ⟨rfl, (List.cons.inj h).2⟩
  | [], b :: q, _, _, _, hq, h => by
    have := (List.cons.inj h).1
    subst this
    exact absurd (.head _) hq
  | a :: p, [], _, _, hp, _, h => by
    have := (List.cons.inj h).1
    subst this
    exact absurd (.head _) hp
  | a :: p, b :: q, x, y, hp, hq, h => by
    obtain ⟨h1, h2⟩ := List.cons.inj h
    obtain ⟨e1, e2⟩ := free_cut (fun z => hp (.tail _ z)) (fun z => hq (.tail _ z)) h2
    exact ⟨by rw [h1, e1], e2⟩
theorem drop_beyond {a b : List Nat} {k : Nat} (h : a.length ≤ k) : (a ++ b).drop k = b.drop (k - a.length) := by
  rw [List.drop_append, List.drop_of_length_le h, List.nil_append]
section
variable {y : Str} {c0 : Nat} {tl : List Nat}
theorem join_uniq (hy : y.cps.toList = c0 :: tl) : ∀ (ps qs : List Str), ps ≠ [] → qs ≠ [] → (∀ p ∈ ps, c0 ∉ p.cps.toList) → (∀ p ∈ qs, c0 ∉ p.cps.toList) → Str.join y ps = Str.join y qs → ps = qs
  | [], _, h, _, _, _, _ => absurd rfl h
  | _, [], _, h, _, _, _ => absurd rfl h
  | [p], [q], _, _, _, _, e => by rw [show p = q from e]
  | [p], q :: q' :: r, _, _, hp, _, e => by
    have e1 := congrArg (fun s : Str => s.cps.toList) e
    simp only [join_cons] at e1
    have : c0 ∈ p.cps.toList := by
      rw [show p.cps.toList = _ from e1, hy]
      simp
    exact absurd this (hp p (.head _))
  | p :: p' :: r, [q], _, _, _, hq, e => by
    have e1 := congrArg (fun s : Str => s.cps.toList) e
    simp only [join_cons] at e1
    have : c0 ∈ q.cps.toList := by
      rw [show q.cps.toList = _ from e1.symm, hy]
      simp
    exact absurd this (hq q (.head _))
  | p :: p' :: r, q :: q' :: r', _, _, hp, hq, e => by
    have e1 := congrArg (fun s : Str => s.cps.toList) e
    simp only [join_cons, hy, List.cons_append] at e1
    obtain ⟨h1, h2⟩ := free_cut (hp p (.head _)) (hq q (.head _)) e1
    have h3 : Str.join y (p' :: r) = Str.join y (q' :: r') := Str.ext' (Array.toList_inj.mp (List.append_cancel_left h2))
    rw [show p = q from Str.ext' (Array.toList_inj.mp h1), join_uniq hy (p' :: r) (q' :: r') (by simp) (by simp) (fun z hz => hp z (.tail _ hz)) (fun z hz => hq z (.tail _ hz)) h3]
theorem join_at (hy : y.cps.toList = c0 :: tl) (ht : c0 ∉ tl) : ∀ (ps : List Str), (∀ p ∈ ps, c0 ∉ p.cps.toList) → ∀ k, (Str.join y ps).cps.toList[k]? = some c0 → ((Str.join y ps).cps.toList.drop k).take (tl.length + 1) = c0 :: tl
  | [], _, k, h => by
    have : (Str.join y []).cps.toList = [] := rfl
    rw [this] at h; simp at h
  | [p], hp, k, h => absurd (List.mem_of_getElem? h) (hp p (.head _))
  | p :: q :: r, hp, k, h => by
    rw [join_cons, hy] at h ⊢
    by_cases h1 : k < p.cps.toList.length
    · rw [List.getElem?_append_left h1] at h
      exact absurd (List.mem_of_getElem? h) (hp p (.head _))
    · rw [List.getElem?_append_right (by omega)] at h
      rw [drop_beyond (by omega)]
      by_cases h2 : k - p.cps.toList.length = 0
      · rw [h2, List.drop_zero]
        simp
      · obtain ⟨j, hj⟩ : ∃ j, k - p.cps.toList.length = j + 1 := ⟨k - p.cps.toList.length - 1, by omega⟩
        rw [hj] at h ⊢
        simp only [List.cons_append, List.getElem?_cons_succ, List.drop_succ_cons] at h ⊢
        by_cases h3 : j < tl.length
        · rw [List.getElem?_append_left h3] at h
          exact absurd (List.mem_of_getElem? h) ht
        · rw [List.getElem?_append_right (by omega)] at h
          rw [drop_beyond (by omega)]
          exact join_at hy ht (q :: r) (fun z hz => hp z (.tail _ hz)) _ h
theorem part_freeG (hy : y.cps.toList = c0 :: tl) (x : Str) (hat : ∀ k, x.cps.toList[k]? = some c0 → (x.cps.toList.drop k).take (tl.length + 1) = c0 :: tl) (a b : Nat) (hn : ∀ k, a ≤ k → k < b → ¬ StrLaws.At x y x.length k) : c0 ∉ (Builtin.Str.strSub x a b).cps.toList := by
  intro hm
  rw [StrLaws.strSub_toList] at hm
  obtain ⟨j, hj⟩ := List.getElem?_of_mem hm
  have hlt : j < b - a := by
    have h1 : j < ((x.cps.toList.drop a).take (b - a)).length := (List.getElem?_eq_some_iff.mp hj).1
    simp at h1
    omega
  rw [List.getElem?_take_of_lt hlt, List.getElem?_drop] at hj
  have h2 := hat _ hj
  have hyl : y.length = tl.length + 1 := by
    have : y.cps.toList.length = tl.length + 1 := by rw [hy]; rfl
    simpa [Str.length] using this
  refine hn (a + j) (by omega) (by omega) ⟨?_, ?_⟩
  · have h3 := congrArg List.length h2
    simp only [List.length_take, List.length_drop, List.length_cons] at h3
    have h4 : x.cps.toList.length = x.length := by simp [Str.length]
    omega
  · rw [StrLaws.subAt_eq, hyl, h2, hy]
    simp
theorem parts_freeG (hy : y.cps.toList = c0 :: tl) (x : Str) (hat : ∀ k, x.cps.toList[k]? = some c0 → (x.cps.toList.drop k).take (tl.length + 1) = c0 :: tl) : ∀ (cuts : List Nat) (a f : Nat), StrLaws.ChainG x y x.length a cuts f → (∀ k, f ≤ k → ¬ StrLaws.At x y x.length k) → ∀ p ∈ StrLaws.partsFrom x y.length a cuts, c0 ∉ p.cps.toList
  | [], a, f, h, hn, p, hp => by
    have e : f = a := h
    subst e
    rw [List.mem_singleton.mp hp]
    exact part_freeG hy x hat f x.length fun k h1 _ => hn k h1
  | d :: r, a, f, h, hn, p, hp => by
    rcases List.mem_cons.mp hp with rfl | hp'
    · exact part_freeG hy x hat a d h.2.2.1
    · exact parts_freeG hy x hat r _ f h.2.2.2 hn p hp'
/-- a text that is glued of parts without the mark's first sign, cut at the mark -/
theorem split_join (hy : y.cps.toList = c0 :: tl) (ht : c0 ∉ tl) (hk : Builtin.Str.strKind y = 1) (ps : List Str) (hne : ps ≠ []) (hp : ∀ p ∈ ps, c0 ∉ p.cps.toList) : Txt.split (Str.join y ps) y = ps := by
  have hat := join_at hy ht ps hp
  have hyl : y.length = tl.length + 1 := by
    have : y.cps.toList.length = tl.length + 1 := by rw [hy]; rfl
    simpa [Str.length] using this
  generalize hx : Str.join y ps = x at *
  have one : c0 ∉ x.cps.toList → [x] = ps := fun h => join_uniq hy [x] ps (by simp) hne (by simpa using h) hp hx.symm
  obtain ⟨f, hG, hn⟩ := StrLaws.occ_tight x y (by omega)
  have hk1 : ¬ (Builtin.Str.strKind x < Builtin.Str.strKind y) := by
    rw [hk]
    unfold Builtin.Str.strKind
    split
    · omega
    · split <;> omega
  unfold Txt.split
  split
  · rename_i hc
    rw [Bool.or_eq_true, decide_eq_true_eq, decide_eq_true_eq] at hc
    rcases hc with h | h
    · refine one fun hm => ?_
      obtain ⟨j, hj⟩ := List.getElem?_of_mem hm
      have h3 := congrArg List.length (hat j hj)
      simp only [List.length_take, List.length_drop, List.length_cons] at h3
      have h4 : x.cps.toList.length = x.length := by simp [Str.length]
      omega
    · exact absurd h hk1
  · have fre := parts_freeG hy x hat _ 0 f hG hn
    split
    · rename_i he
      rw [List.isEmpty_iff.mp he] at fre
      have := fre _ (List.mem_singleton.mpr rfl)
      rw [StrLaws.sub_whole] at this
      exact one this
    · rw [StrLaws.partsBetween_eq]
      obtain ⟨f', hch⟩ := StrLaws.occ_chain x y (x.length + 1)
      obtain ⟨p, r, e⟩ := StrLaws.partsFrom_ne x y.length 0 (Builtin.Str.occurrences x y 0 x.length (x.length + 1))
      refine join_uniq hy _ ps (by rw [e]; simp) hne fre hp ?_
      rw [StrLaws.join_partsFrom x y _ 0 f' hch, StrLaws.sub_whole, hx]
theorem replace_join (x z : Str) (hk : Builtin.Str.strKind y = 1) (hy0 : (y.length == 0) = false) : Txt.replace x y z = Str.join z (Txt.split x y) := by
  have hk1 : (decide (Builtin.Str.strKind x < Builtin.Str.strKind y)) = false := by
    rw [hk]
    apply decide_eq_false
    unfold Builtin.Str.strKind
    split
    · omega
    · split <;> omega
  unfold Txt.replace Txt.split
  rw [hk1, hy0, Bool.false_and, Bool.or_false, Bool.or_false]
  by_cases h1 : x.length < y.length
  · rw [if_pos (decide_eq_true h1)]
    have : Builtin.Str.occurrences x y 0 x.length (x.length + 1) = [] := by
      obtain ⟨f, hG⟩ := StrLaws.occ_chain x y (x.length + 1)
      cases ho : Builtin.Str.occurrences x y 0 x.length (x.length + 1) with
      | nil => rfl
      | cons a r =>
        rw [ho] at hG
        have := hG.2.1.1
        omega
    rw [this]; rfl
  · rw [decide_eq_false h1]
    simp only [Bool.false_eq_true, if_false]
    split
    · rfl
    · exact StrLaws.glued_eq_join _ _
end
/- Fw34 -/
set_option autoImplicit false
/-! pits: pure -/
def ripeL (rs : List Nat) : List Nat := (List.range rs.length).filterMap fun k => if rs.getD k 0 = k + 2 then some k else none
def moveR (rs : List Nat) (i : Nat) : List Nat := (rs.take i).map (· + 1) ++ 1 :: rs.drop (i + 1)
def sowStep (st : List Nat × List Nat) : List Nat × List Nat := match ripeL st.1 with | [] => st | i :: _ => (moveR st.1 i, st.2 ++ [i + 1])
def sowI (st : List Nat × List Nat) : Nat → List Nat × List Nat
  | 0 => st
  | i + 1 => sowStep (sowI st i)
def sownOf (xs : List Nat) : List Nat × List Nat := sowI (xs.map (· + 1), []) xs.sum
theorem ripe_mem {rs : List Nat} {k : Nat} (h : k ∈ ripeL rs) : k < rs.length ∧ rs.getD k 0 = k + 2 := by
  unfold ripeL at h
  obtain ⟨a, ha, e⟩ := List.mem_filterMap.mp h
  split at e
  · cases e
    exact ⟨List.mem_range.mp ha, by assumption⟩
  · cases e
theorem move_len {rs : List Nat} {i : Nat} (h : i < rs.length) : (moveR rs i).length = rs.length := by
  unfold moveR
  simp
  omega
/-- rows lie between bounds -/
def Rows (a b : Nat) (rs : List Nat) : Prop := ∀ r ∈ rs, a ≤ r ∧ r ≤ b
theorem move_rows {b : Nat} {rs : List Nat} {i : Nat} (h : Rows 1 b rs) (hb : 1 ≤ b) : Rows 1 (b + 1) (moveR rs i) := by
  intro r hr
  unfold moveR at hr
  rcases List.mem_append.mp hr with hr | hr
  · obtain ⟨q, hq, rfl⟩ := List.mem_map.mp hr
    have := h q (List.mem_of_mem_take hq)
    omega
  · rcases List.mem_cons.mp hr with rfl | hr
    · omega
    · have := h r (List.mem_of_mem_drop hr)
      omega
theorem sow_len (st : List Nat × List Nat) : ∀ n, (sowI st n).1.length = st.1.length
  | 0 => rfl
  | n + 1 => by
    have ih := sow_len st n
    unfold sowI sowStep
    cases h : ripeL (sowI st n).1 with
    | nil => exact ih
    | cons i r => exact (move_len (ripe_mem (by rw [h]; exact .head _)).1).trans ih
theorem sow_rows {st : List Nat × List Nat} {b : Nat} (h : Rows 1 b st.1) (hb : 1 ≤ b) : ∀ n, Rows 1 (b + n) (sowI st n).1
  | 0 => h
  | n + 1 => by
    have ih := sow_rows h hb n
    unfold sowI sowStep
    cases hr : ripeL (sowI st n).1 with
    | nil => exact fun r hm => ⟨(ih r hm).1, by have := (ih r hm).2; omega⟩
    | cons i r => exact move_rows (b := b + n) ih (by omega)
theorem sow_pits (st : List Nat × List Nat) : ∀ n, (sowI st n).2.length ≤ st.2.length + n
  | 0 => Nat.le_refl _
  | n + 1 => by
    have ih := sow_pits st n
    unfold sowI sowStep
    cases hr : ripeL (sowI st n).1 with
    | nil => exact Nat.le_trans ih (by omega)
    | cons i r => simp; omega
def ends3 : List Str := ["\n", "\r", "\r\n"]
def endS (k : Nat) : Str := ends3.getD (k % 3) ""
theorem endS_is (k : Nat) : IsEnd (endS k).cps.toList := by
  unfold endS
  have : k % 3 = 0 ∨ k % 3 = 1 ∨ k % 3 = 2 := by omega
  rcases this with e | e | e <;> rw [e]
  · rw [show (ends3.getD 0 "").cps.toList = [10] from by decide +kernel]; exact .lf
  · rw [show (ends3.getD 1 "").cps.toList = [13] from by decide +kernel]; exact .cr
  · rw [show (ends3.getD 2 "").cps.toList = [13, 10] from by decide +kernel]; exact .both
theorem endS_len (k : Nat) : (endS k).length ≤ 2 := by
  have h := endS_is k
  have e : (endS k).length = (endS k).cps.toList.length := by simp [Str.length]
  rw [e]
  generalize (endS k).cps.toList = l at h
  cases h <;> simp
theorem dots_list (n : Nat) : (dots n).cps.toList = List.replicate n 46 := by simp [dots]
theorem dots_flat (n : Nat) : Flat (dots n).cps.toList := by
  rw [dots_list]
  intro c hc
  rw [List.eq_of_mem_replicate hc]
  decide
theorem stuff_dots (n : Nat) (h : 1 ≤ n) : stuffRow (dots n).cps.toList = (dots (n + 1)).cps.toList := by
  obtain ⟨m, rfl⟩ : ∃ m, n = m + 1 := ⟨n - 1, by omega⟩
  rw [dots_list, dots_list]
  rfl
theorem str_ext {a b : Str} (h : a.cps.toList = b.cps.toList) : a = b := Str.ext' (Array.toList_inj.mp h)
theorem crlf_cps : ("\r\n" : Str).cps.toList = [13, 10] := by decide +kernel
theorem join_rows : ∀ ps : List Str, (Str.join "\r\n" (ps ++ [⟨#[]⟩])).cps.toList = rowsL (ps.map (·.cps.toList))
  | [] => by simp [Str.join, rowsL]
  | [p] => by
    rw [List.cons_append, List.nil_append, join_cons, crlf_cps]
    simp [Str.join, rowsL]
  | p :: q :: r => by
    have ih := join_rows (q :: r)
    rw [List.cons_append] at ih
    rw [List.cons_append, List.cons_append, join_cons, crlf_cps, ih]
    simp [rowsL]
theorem flat_no13 {l : List Nat} (h : Flat l) : 13 ∉ l := fun hm => (h 13 hm).2 rfl
theorem split_rows (ps : List Str) (h : ∀ p ∈ ps, Flat p.cps.toList) {x : Str} (hx : x.cps.toList = rowsL (ps.map (·.cps.toList))) : Txt.split x "\r\n" = ps ++ [⟨#[]⟩] := by
  have e : x = Str.join "\r\n" (ps ++ [⟨#[]⟩]) := str_ext (by rw [hx, join_rows])
  rw [e]
  refine split_join crlf_cps (by decide) (by decide +kernel) _ (by simp) fun p hp => ?_
  rcases List.mem_append.mp hp with hp | hp
  · exact flat_no13 (h p hp)
  · rw [List.mem_singleton.mp hp]; simp
def aheadOf (rs : List Nat) (i : Nat) : List Str := (List.range i).map fun k => dots (rs.getD k 0) ++ endS k
theorem take_getD (rs : List Nat) (i : Nat) (h : i ≤ rs.length) : rs.take i = (List.range i).map fun k => rs.getD k 0 := by
  induction i with
  | zero => simp
  | succ i ih =>
    rw [List.range_succ, List.map_append, ← ih (by omega), List.take_add_one]
    congr 1
    simp [List.getElem?_eq_getElem (show i < rs.length by omega)]
theorem sown_text {b : Nat} {rs : List Nat} {i : Nat} (h : Rows 1 b rs) (hi : i ≤ rs.length) : Txt.split (quoteP (Str.join "" (aheadOf rs i))) "\r\n" = (rs.take i).map (fun r => dots (r + 1)) ++ [⟨#[]⟩] := by
  have hr : ∀ k, k < i → 1 ≤ rs.getD k 0 := fun k hk => by
    rw [List.getD_eq_getElem?_getD, List.getElem?_eq_getElem (by omega)]
    exact (h _ (List.getElem_mem _)).1
  refine split_rows _ (fun p hp => ?_) ?_
  · obtain ⟨r, _, rfl⟩ := List.mem_map.mp hp
    exact dots_flat _
  · rw [quoteP_list, join_flat]
    have e : flatS (aheadOf rs i) = (((List.range i).map fun k => ((dots (rs.getD k 0)).cps.toList, (endS k).cps.toList)).map fun p => p.1 ++ p.2).flatten ++ [] := by
      unfold flatS aheadOf
      rw [List.map_map, List.map_map, List.append_nil]
      congr 1
      apply List.map_congr_left
      intro k _
      simp [Str.cps_append]
    rw [e, quote_rows _ [] (fun p hp => ?_) (by simp)]
    · rw [List.map_map, take_getD rs i hi, List.map_map, List.map_map]
      rw [show quoteL [] = [] from rfl, List.append_nil]
      congr 1
      apply List.map_congr_left
      intro k hk
      exact stuff_dots _ (hr k (List.mem_range.mp hk))
    · obtain ⟨k, hk, rfl⟩ := List.mem_map.mp hp
      refine ⟨dots_flat _, endS_is k, ?_⟩
      have := hr k (List.mem_range.mp hk)
      obtain ⟨n, hn⟩ : ∃ n, rs.getD k 0 = n + 1 := ⟨rs.getD k 0 - 1, by omega⟩
      show (dots (rs.getD k 0)).cps.toList ≠ []
      rw [hn, dots_list, List.replicate_succ]
      simp
/-! lengths -/
theorem crlfL_len : ∀ l : List Nat, (crlfL l).length ≤ 2 * l.length
  | [] => by simp [crlfL]
  | 13 :: 10 :: r => by
    have := crlfL_len r
    simp [crlfL]; omega
  | c :: r => by
    have h := crlfL_len r
    by_cases hc : ∃ r', c = 13 ∧ r = 10 :: r'
    · obtain ⟨r', rfl, rfl⟩ := hc
      have := crlfL_len r'
      simp [crlfL]; omega
    · rw [crlfL.eq_3 c r (by intro r' h1 h2; exact hc ⟨r', h1, h2⟩)]
      split <;> simp <;> omega
theorem size_len (x : Str) : x.cps.size = x.cps.toList.length := by simp
theorem crlfP_size (x : Str) : (crlfP x).cps.size ≤ 2 * x.cps.size := by
  rw [size_len, crlfP_list, size_len x]
  exact crlfL_len _
theorem stuffL_len : ∀ (b : Bool) (l : List Nat), (stuffL b l).length ≤ 2 * l.length
  | _, [] => by simp [stuffL]
  | b, c :: r => by
    unfold stuffL
    split
    · have := stuffL_len false r
      simp; omega
    · have := stuffL_len (c == 10) r
      simp; omega
theorem quoteP_size (x : Str) : (quoteP x).cps.size ≤ 4 * x.cps.size := by
  rw [size_len, quoteP_list, size_len x]
  have h1 := stuffL_len true (crlfL x.cps.toList)
  have h2 := crlfL_len x.cps.toList
  unfold quoteL
  omega
theorem flatS_len (ps : List Str) : (flatS ps).length = (ps.map (·.length)).sum := by
  induction ps with
  | nil => rfl
  | cons p r ih => rw [flatS_cons, List.length_append, ih]; simp [Str.length]
theorem join_len (ps : List Str) : (Str.join "" ps).cps.size = (ps.map (·.length)).sum := by
  rw [size_len, join_flat, flatS_len]
theorem sum_le {l : List Nat} {b : Nat} (h : ∀ x ∈ l, x ≤ b) : l.sum ≤ l.length * b := by
  induction l with
  | nil => simp
  | cons a l ih =>
    have h1 := h a (.head _)
    have h2 := ih fun x hx => h x (.tail _ hx)
    simp only [List.sum_cons, List.length_cons, Nat.succ_mul]
    omega
section
variable {c : Cx} {L : Addr} {m : Loc} {mu led : List (Addr × Obj)} {s : Shared}
theorem At.rot3 {x y z : Addr × Obj} (S : At c L m (x :: y :: z :: mu) led s) : At c L m (y :: z :: x :: mu) led s := S.perm ((List.Perm.swap _ _ _).trans (.cons _ (.swap _ _ _)))
theorem At.rot2 {x y : Addr × Obj} (S : At c L m (x :: y :: mu) led s) : At c L m (y :: x :: mu) led s := S.perm (List.Perm.swap _ _ _)
end
/- Fw35 -/
set_option autoImplicit false
/-! the sort's asks, answered by keys -/
section
variable {key : Nat → Int} {N : Nat}
inductive RunsTo (key : Nat → Int) (N : Nat) {α : Type} : KasT α → α → Prop where
  | ret (a : α) : RunsTo key N (.ret a) a
  | ask {i j : Nat} {k : Bool → KasT α} {a : α} : i < N → j < N → RunsTo key N (k (decide (key i < key j))) a → RunsTo key N (.ask i j k) a
theorem RunsTo.bind {α β : Type} {t : KasT α} {f : α → KasT β} {a : α} {b : β} (h : RunsTo key N t a) (h' : RunsTo key N (f a) b) : RunsTo key N (t.bind f) b := by
  induction h with
  | ret a => exact h'
  | ask hi hj _ ih => exact .ask hi hj (ih h')
theorem RunsTo.wp {α : Type} {cmp : Nat → Nat → (Bool → Shared → Prop) → Shared → Prop} {P : Shared → Prop} (hcmp : ∀ i j (C : Bool → Shared → Prop) s, i < N → j < N → P s → (∀ s', P s' → C (decide (key i < key j)) s') → cmp i j C s)
    {t : KasT α} {a : α} (h : RunsTo key N t a) : ∀ (Q : α → Shared → Prop) (s : Shared), P s → (∀ s', P s' → Q a s') → t.kasWp cmp Q s := by
  induction h with
  | ret a => intro Q s p q; exact q s p
  | ask hi hj _ ih => intro Q s p q; exact hcmp _ _ _ s hi hj p fun s' p' => ih Q s' p' q
/-- a permutation of the places below N -/
structure PermN (N : Nat) (p : Array Nat) : Prop where
  perm : p.toList.Perm (List.range N)
theorem PermN.size {p : Array Nat} (h : PermN N p) : p.size = N := by
  have := h.perm.length_eq
  simpa using this
theorem PermN.lt {p : Array Nat} (h : PermN N p) (hN : 0 < N) (i : Nat) : p.getD i 0 < N := by
  by_cases hi : i < p.size
  · have : p.getD i 0 ∈ p.toList := by
      have e : p.getD i 0 = p[i] := by simp [Array.getD, hi]
      rw [e]; exact Array.getElem_mem_toList hi
    exact List.mem_range.mp (h.perm.mem_iff.mp this)
  · have e : p.getD i 0 = 0 := by simp [Array.getD, hi]
    omega
theorem PermN.inj {p : Array Nat} (h : PermN N p) {i j : Nat} (hi : i < N) (hj : j < N) (e : p.getD i 0 = p.getD j 0) : i = j := by
  have nd : p.toList.Nodup := h.perm.nodup_iff.mpr List.nodup_range
  have hs := h.size
  have e1 : p.getD i 0 = p.toList[i]'(by simpa using (hs ▸ hi)) := by simp [Array.getD, hs, hi]
  have e2 : p.getD j 0 = p.toList[j]'(by simpa using (hs ▸ hj)) := by simp [Array.getD, hs, hj]
  rw [e1, e2] at e
  exact (List.getElem_inj nd).mp e
def Kp (key : Nat → Int) (p : Array Nat) (i : Nat) : Int := key (p.getD i 0)
theorem PermN.ne {p : Array Nat} (h : PermN N p) (hk : ∀ i j, i < N → j < N → key i = key j → i = j) {i j : Nat} (hi : i < N) (hj : j < N) (hij : i ≠ j) : Kp key p i ≠ Kp key p j := by
  intro e
  have hN : 0 < N := by omega
  exact hij (h.inj hi hj (hk _ _ (h.lt hN i) (h.lt hN j) e))
theorem run_asc {p : Array Nat} (hp : PermN N p) (hN : 0 < N) : ∀ (f n : Nat), 1 ≤ n → ∃ m, RunsTo key N (kas_asc p f n) m ∧ n ≤ m ∧ m ≤ n + f ∧ (∀ j, n ≤ j → j < m → Kp key p (j - 1) ≤ Kp key p j) ∧ (m < n + f → Kp key p m < Kp key p (m - 1))
  | 0, n, _ => ⟨n, .ret n, Nat.le_refl _, Nat.le_refl _, fun j h1 h2 => by omega, fun h => by omega⟩
  | f + 1, n, hn => by
    by_cases hc : Kp key p n < Kp key p (n - 1)
    · refine ⟨n, .ask (hp.lt hN _) (hp.lt hN _) ?_, Nat.le_refl _, by omega, fun j h1 h2 => by omega, fun _ => hc⟩
      rw [decide_eq_true (show key (p.getD n 0) < key (p.getD (n - 1) 0) from hc), if_pos rfl]
      exact .ret n
    · obtain ⟨m, hr, h1, h2, h3, h4⟩ := run_asc hp hN f (n + 1) (by omega)
      refine ⟨m, .ask (hp.lt hN _) (hp.lt hN _) ?_, by omega, by omega, fun j h5 h6 => ?_, fun h => h4 (by omega)⟩
      · rw [decide_eq_false (show ¬ key (p.getD n 0) < key (p.getD (n - 1) 0) from hc), if_neg (by decide)]
        exact hr
      · by_cases e : j = n
        · subst e; exact Int.not_lt.mp hc
        · exact h3 j (by omega) h6
theorem run_desc {p : Array Nat} (hp : PermN N p) (hN : 0 < N) (hk : ∀ i j, i < N → j < N → key i = key j → i = j) : ∀ (f n : Nat), 1 ≤ n → n + f ≤ N → ∃ m, RunsTo key N (kas_desc f p n 0) (p, m, 0) ∧ n ≤ m ∧ m ≤ n + f ∧ (∀ j, n ≤ j → j < m → Kp key p j < Kp key p (j - 1))
  | 0, n, _, _ => ⟨n, .ret _, Nat.le_refl _, Nat.le_refl _, fun j h1 h2 => by omega⟩
  | f + 1, n, hn, hf => by
    by_cases hc : Kp key p n < Kp key p (n - 1)
    · obtain ⟨m, hr, h1, h2, h3⟩ := run_desc hp hN hk f (n + 1) (by omega) (by omega)
      refine ⟨m, .ask (hp.lt hN _) (hp.lt hN _) ?_, by omega, by omega, fun j h5 h6 => ?_⟩
      · rw [decide_eq_true (show key (p.getD n 0) < key (p.getD (n - 1) 0) from hc), if_pos rfl, if_neg (by omega)]
        exact hr
      · by_cases e : j = n
        · subst e; exact hc
        · exact h3 j (by omega) h6
    · refine ⟨n, .ask (hp.lt hN _) (hp.lt hN _) ?_, Nat.le_refl _, by omega, fun j h1 h2 => by omega⟩
      rw [decide_eq_false (show ¬ key (p.getD n 0) < key (p.getD (n - 1) 0) from hc), if_neg (by decide)]
      refine .ask (hp.lt hN _) (hp.lt hN _) ?_
      have hne := hp.ne hk (i := n - 1) (j := n) (by omega) (by omega) (by omega)
      have hlt : Kp key p (n - 1) < Kp key p n := by omega
      rw [decide_eq_true (show key (p.getD (n - 1) 0) < key (p.getD n 0) from hlt), if_pos rfl]
      exact .ret _
theorem rev_perm {p : Array Nat} (hp : PermN N p) (i j : Nat) : PermN N (kas_rev p i j) := ⟨(Array.perm_iff_toList_perm.mp (mirror_perm p i j _)).trans hp.perm⟩
theorem bub_perm {p : Array Nat} (hp : PermN N p) (i j : Nat) : PermN N (bubble p i j) := ⟨(Array.perm_iff_toList_perm.mp (bubble_perm p i j)).trans hp.perm⟩
theorem getD_of {p q : Array Nat} {i j : Nat} (h : p[i]? = q[j]?) : p.getD i 0 = q.getD j 0 := by
  simp only [Array.getD_eq_getD_getElem?, h]
theorem Kp_rev {p : Array Nat} {n : Nat} (hn : n ≤ p.size) (k : Nat) : Kp key (kas_rev p 0 n) k = if k < n then Kp key p (n - 1 - k) else Kp key p k := by
  have e := getElem?_mirror_all (i := 0) hn k
  unfold Kp kas_rev
  by_cases h1 : k < n
  · rw [if_pos ⟨Nat.zero_le _, h1⟩, Nat.zero_add] at e
    rw [if_pos h1, getD_of e]
  · rw [if_neg (fun q => h1 q.2)] at e
    rw [if_neg h1, getD_of e]
theorem Kp_bub {p : Array Nat} {src d : Nat} (hs : src < p.size) (hd : d ≤ src) (k : Nat) : Kp key (bubble p src d) k = if k = src - d then Kp key p src else if src - d < k ∧ k ≤ src then Kp key p (k - 1) else Kp key p k := by
  have e := getElem?_bubble hs d hd k
  unfold Kp
  by_cases h1 : k = src - d
  · rw [if_pos h1] at e ⊢; rw [getD_of e]
  · rw [if_neg h1] at e ⊢
    by_cases h2 : src - d < k ∧ k ≤ src
    · rw [if_pos h2] at e ⊢; rw [getD_of e]
    · rw [if_neg h2] at e ⊢; rw [getD_of e]
/-- ascending up to n -/
def Asc (key : Nat → Int) (p : Array Nat) (n : Nat) : Prop := ∀ i j, i ≤ j → j < n → Kp key p i ≤ Kp key p j
theorem asc_of_steps {p : Array Nat} {n : Nat} (h : ∀ j, 1 ≤ j → j < n → Kp key p (j - 1) ≤ Kp key p j) : Asc key p n := by
  intro i j hij hj
  induction j with
  | zero => have : i = 0 := by omega
            subst this; exact Int.le_refl _
  | succ j ih =>
    by_cases e : i = j + 1
    · subst e; exact Int.le_refl _
    · have h1 := ih (by omega) (by omega)
      have h2 := h (j + 1) (by omega) hj
      simp only [Nat.add_sub_cancel] at h2
      omega
theorem run_count {p : Array Nat} (hp : PermN N p) (hN : 1 ≤ N) (hk : ∀ i j, i < N → j < N → key i = key j → i = j) : ∃ m p', RunsTo key N (kas_count N p) (m, p') ∧ PermN N p' ∧ 1 ≤ m ∧ m ≤ N ∧ Asc key p' m := by
  obtain ⟨n, hr, h1, h2, h3, h4⟩ := run_asc (key := key) hp (by omega) (N - 1) 1 (Nat.le_refl _)
  have ha : Asc key p n := asc_of_steps h3
  unfold kas_count
  by_cases e : n = N
  · exact ⟨n, p, hr.bind (by rw [if_pos (by simpa using e)]; exact .ret _), hp, h1, by omega, ha⟩
  · have hne : ¬ ((n == N) = true) := by simpa using e
    by_cases h5 : n > 1
    · have hlt : Kp key p 0 < Kp key p (n - 1) := by
        have q1 := ha 0 (n - 1) (by omega) (by omega)
        have q2 := hp.ne hk (i := 0) (j := n - 1) (by omega) (by omega) (by omega)
        omega
      refine ⟨n, p, hr.bind ?_, hp, h1, by omega, ha⟩
      rw [if_neg hne, if_pos h5]
      refine .ask (hp.lt (by omega) _) (hp.lt (by omega) _) ?_
      rw [decide_eq_true (show key (p.getD 0 0) < key (p.getD (n - 1) 0) from hlt), if_pos rfl]
      exact .ret _
    · have hn1 : n = 1 := by omega
      subst hn1
      have hs := hp.size
      obtain ⟨m, hd, d1, d2, d3⟩ := run_desc hp (by omega) hk (N - (1 + 1)) (1 + 1) (by omega) (by omega)
      have hp2 := rev_perm hp 0 m
      obtain ⟨m2, ha2, a1, a2, a3, _⟩ := run_asc (key := key) hp2 (by omega) (N - m) m (by omega)
      have down : ∀ j, 1 ≤ j → j < m → Kp key p j < Kp key p (j - 1) := by
        intro j h6 h7
        by_cases q : j = 1
        · subst q
          exact h4 (by omega)
        · exact d3 j (by omega) h7
      refine ⟨m2, kas_rev p 0 m, hr.bind ?_, hp2, by omega, by omega, ?_⟩
      · rw [if_neg hne, if_neg h5]
        unfold kas_descPart
        refine hd.bind ?_
        dsimp only
        rw [if_neg (by omega)]
        exact ha2.bind (.ret _)
      · refine asc_of_steps fun j h6 h7 => ?_
        by_cases q : m ≤ j
        · exact a3 j q h7
        · rw [Kp_rev (by omega), Kp_rev (by omega), if_pos (by omega), if_pos (by omega)]
          have h8 := down (m - 1 - (j - 1)) (by omega) (by omega)
          rw [show m - 1 - (j - 1) - 1 = m - 1 - j by omega] at h8
          omega
theorem run_place {p : Array Nat} (hp : PermN N p) (hN : 0 < N) {k : Nat} (ha : Asc key p k) : ∀ (f l r : Nat), r - l ≤ f → l ≤ r → r ≤ k → (∀ j, j < l → Kp key p j ≤ Kp key p k) → (∀ j, r ≤ j → j < k → Kp key p k < Kp key p j) →
    ∃ m, RunsTo key N (kas_place p k f l r) m ∧ m ≤ k ∧ (∀ j, j < m → Kp key p j ≤ Kp key p k) ∧ (∀ j, m ≤ j → j < k → Kp key p k < Kp key p j)
  | 0, l, r, h1, h2, h3, h4, h5 => ⟨l, .ret l, by omega, h4, fun j h6 h7 => h5 j (by omega) h7⟩
  | f + 1, l, r, h1, h2, h3, h4, h5 => by
    unfold kas_place
    by_cases e : l ≥ r
    · rw [if_pos e]
      exact ⟨l, .ret l, by omega, h4, fun j h6 h7 => h5 j (by omega) h7⟩
    · rw [if_neg e]
      by_cases hc : Kp key p k < Kp key p ((l + r) / 2)
      · obtain ⟨m, hr, q⟩ := run_place hp hN ha f l ((l + r) / 2) (by omega) (by omega) (by omega) h4 fun j h6 h7 => by
          have := ha ((l + r) / 2) j h6 h7
          omega
        refine ⟨m, .ask (hp.lt hN _) (hp.lt hN _) ?_, q⟩
        rw [decide_eq_true (show key (p.getD k 0) < key (p.getD ((l + r) / 2) 0) from hc), if_pos rfl]
        exact hr
      · obtain ⟨m, hr, q⟩ := run_place hp hN ha f ((l + r) / 2 + 1) r (by omega) (by omega) h3 (fun j h6 => by
          have := ha j ((l + r) / 2) (by omega) (by omega)
          omega) h5
        refine ⟨m, .ask (hp.lt hN _) (hp.lt hN _) ?_, q⟩
        rw [decide_eq_false (show ¬ key (p.getD k 0) < key (p.getD ((l + r) / 2) 0) from hc), if_neg (by decide)]
        exact hr
theorem run_bin (hN : 0 < N) : ∀ (f k : Nat) (p : Array Nat), PermN N p → k + f = N → Asc key p k → ∃ p', RunsTo key N (kas_bin f p k) p' ∧ PermN N p' ∧ Asc key p' N
  | 0, k, p, hp, hf, ha => ⟨p, .ret p, hp, by rw [← hf]; exact ha⟩
  | f + 1, k, p, hp, hf, ha => by
    obtain ⟨l, hr, h1, h2, h3⟩ := run_place hp hN ha k 0 k (by omega) (by omega) (Nat.le_refl _) (fun j h => by omega) (fun j h1 h2 => by omega)
    have hp' := bub_perm hp k (k - l)
    have hs := hp.size
    have hK := Kp_bub (key := key) (p := p) (src := k) (d := k - l) (by omega) (by omega)
    obtain ⟨p', hr', q⟩ := run_bin hN f (k + 1) (bubble p k (k - l)) hp' (by omega) (by
      intro i j hij hj
      rw [hK, hK, show k - (k - l) = l by omega]
      by_cases i1 : i = l
      · rw [if_pos i1]
        by_cases j1 : j = l
        · rw [if_pos j1]; exact Int.le_refl _
        · rw [if_neg j1, if_pos (by omega)]
          have := h3 (j - 1) (by omega) (by omega)
          omega
      · rw [if_neg i1]
        by_cases i2 : l < i ∧ i ≤ k
        · rw [if_pos i2, if_neg (by omega), if_pos (by omega)]
          exact ha (i - 1) (j - 1) (by omega) (by omega)
        · rw [if_neg i2]
          by_cases j1 : j = l
          · rw [if_pos j1]; exact h2 i (by omega)
          · rw [if_neg j1]
            by_cases j2 : l < j ∧ j ≤ k
            · rw [if_pos j2]; exact ha i (j - 1) (by omega) (by omega)
            · rw [if_neg j2]; exact ha i j hij (by omega))
    exact ⟨p', hr.bind hr', q⟩
theorem run_sort (hN : 1 ≤ N) (hk : ∀ i j, i < N → j < N → key i = key j → i = j) : ∃ p, RunsTo key N (kas_sort N) p ∧ PermN N p ∧ Asc key p N := by
  have hp : PermN N (List.toArray (List.range N)) := ⟨List.Perm.refl _⟩
  obtain ⟨m, p1, hr, hp1, h1, h2, ha⟩ := run_count hp hN hk
  unfold kas_sort
  by_cases e : m < N
  · obtain ⟨p', hr', q⟩ := run_bin (key := key) (by omega) (N - max m 1) (max m 1) p1 hp1 (by omega) (by rw [show max m 1 = m by omega]; exact ha)
    exact ⟨p', hr.bind (by rw [if_pos e]; exact hr'), q⟩
  · exact ⟨p1, hr.bind (by rw [if_neg e]; exact .ret _), hp1, by rw [show N = m by omega]; exact ha⟩
end
/- Fw36 -/
set_option autoImplicit false
section
variable {c : Cx} {L : Addr} {m : Loc} {mu led : List (Addr × Obj)} {s : Shared} {A : Around} {E : Value → Shared → Prop} {Q : Value → Shared → Prop}
/-- list.sort(reverse=True) of things whose first items differ -/
theorem r_sortRev {D : Addr} {vs : List Value} {n : Nat} {κ : SortKind} (mu' : Obj → List (Addr × Obj)) (S : At c L m (mu' (W.listOf vs.toArray n)) led s) (hm : ∀ o o', SetM D o o' (mu' o) (mu' o')) (h2 : 2 ≤ vs.length) (h64 : vs.length < 64) (key : Nat → Int)
    (hk : ∀ i j, i < vs.length → j < vs.length → key i = key j → i = j)
    (hkind : ∀ (A' : Around) (s1 : Shared), (∀ p ∈ led, s1.heap.get? p.1 = some p.2) → ∀ (Q' : SortKind → Shared → Prop) (E' : Value → Shared → Prop), Q' κ s1 → wpAny c.M A' (keyKind' vs.toArray) Q' E' s1)
    (hcmp : ∀ (A' : Around) (s1 : Shared) (i j : Nat), i < vs.length → j < vs.length → (∀ p ∈ led, s1.heap.get? p.1 = some p.2) → ∀ C : Bool → Shared → Prop, C (decide (key i < key j)) s1 → wpAny c.M A' (keyLt' κ (vs.reverse.getD i .none) (vs.reverse.getD j .none)) C (fun _ _ => False) s1)
    (h : ∀ p e s', PermN vs.length p → Asc key p vs.length → At c L m (mu' (W.listOf ((p.toList.map fun i => vs.reverse.getD i .none).reverse).toArray e)) led s' → Q .none s') :
    wpAny c.M A (call (.builtin "list.sort") [.ref D] [("reverse", .bool true)]) Q E s := by
  have hD := S.muGet (hm (W.listOf vs.toArray n) (W.listOf vs.toArray n)).mem
  have hsz : vs.toArray.size ≤ sizeLine := by rw [List.size_toArray, sizeLine_eq]; omega
  refine wpAny_call_entry_kw slot_list_sort ⟨_, hD, rfl⟩ entry_list_sort ?_ (args_list_sort_rev _ _)
  rw [list_sort_rev]
  refine wpAny_bind (listItems_at hD rfl ?_)
  refine wpAny_bind (listUpdate_at hD rfl ?_ hsz (Nat.zero_le _))
  obtain ⟨e1, S1⟩ : ∃ e1, At c L m (mu' (W.listOf #[] e1)) led { s with heap := s.heap.update D (Obj.mapSeq fun _ => #[]) } := ⟨_, S.upd (hm _ _) (mapSeq_list (fun _ => #[]) vs [] n rfl) rfl⟩
  have hD1 := S1.muGet (hm (W.listOf #[] e1) (W.listOf #[] e1)).mem
  refine wpAny_bind (seqEpoch_at hD1 rfl ?_)
  refine wpAny_bind (r_newTuple S1 (fun hl s2 S2 => ?_) (Nat.ble_eq_true_of_le (by show vs.toArray.toList.length ≤ 16777216; simp; omega)))
  refine wpAny_bind (r_newList S2 (fun ks s3 S3 => ?_) rfl)
  refine wpAny_holding ?_
  dsimp only
  rw [if_pos rfl]
  refine wpAny_bind (wpAny_rule ?_)
  have hn2 : ¬ vs.toArray.size < 2 := by rw [List.size_toArray]; omega
  rw [if_neg hn2, if_neg hn2]
  refine wpAny_bind (hkind _ s3 (fun p hp => S3.ledGet (.tail _ hp)) _ _ ?_)
  obtain ⟨p, hr, hp, ha⟩ := run_sort (key := key) (N := vs.length) (by omega) hk
  have hrev : vs.reverse.length = vs.length := List.length_reverse
  have hask : (kas_sort vs.reverse.length).kasWp (kas_ask c.prog c.w A.in1 κ vs.reverse) (fun p' s' => p' = p ∧ At c L m ((ks, W.listOf [].toArray 0) :: mu' (W.listOf #[] e1)) ((hl, tupO vs.toArray.toList) :: led) s') s3 := by
    rw [hrev]
    refine hr.wp (P := fun s' => At c L m ((ks, W.listOf [].toArray 0) :: mu' (W.listOf #[] e1)) ((hl, tupO vs.toArray.toList) :: led) s') (fun i j C s1 hi hj S' q => ?_) _ s3 S3 fun s' S' => ⟨rfl, S'⟩
    exact hcmp _ s1 i j hi hj (fun p hp => S'.ledGet (.tail _ hp)) C (q s1 S')
  have est : (if true = true then (vs.toArray.zip vs.toArray).reverse else vs.toArray.zip vs.toArray) = vs.reverse.toArray.zip vs.reverse.toArray := kat_pairs (ks := vs) (vs := vs) true rfl
  rw [est]
  refine wpAny_bind (wpAny_mono (kat_run (E := fun _ _ => False) (Q := fun st' s' => arrOf st' = p.map (kas_item (vs.reverse.toArray.zip vs.reverse.toArray)) ∧ failedOf st' = none ∧ At c L m ((ks, W.listOf [].toArray 0) :: mu' (W.listOf #[] e1)) ((hl, tupO vs.toArray.toList) :: led) s')
    (ks := vs.reverse) (vs := vs.reverse) rfl (by omega) (by omega) (fun p' st' s' a1 a2 a3 a4 => by obtain ⟨rfl, S'⟩ := a4; exact ⟨a2, a3, S'⟩) hask) (fun r s4 hr4 => ?_) fun _ _ z => z.elim)
  obtain ⟨⟨⟩, st'⟩ := r
  obtain ⟨har, hf, S4⟩ := hr4
  dsimp only at har hf ⊢
  have hout := kat_snds (ks := vs.reverse) (vs := vs.reverse) rfl har
  rw [hout]
  have hD4 := S4.muGet (.tail _ (hm (W.listOf #[] e1) (W.listOf #[] e1)).mem)
  refine wpAny_bind (seqEpoch_at hD4 rfl ?_)
  have eo : (if true = true then (List.toArray (p.toList.map fun i => vs.reverse.getD i Value.none)).reverse else List.toArray (p.toList.map fun i => vs.reverse.getD i Value.none)) = ((p.toList.map fun i => vs.reverse.getD i Value.none).reverse).toArray := by
    rw [if_pos rfl]; simp
  refine wpAny_bind (listUpdate_at hD4 rfl ?_ (Nat.zero_le _) ?_)
  · rw [hf]
    simp only [bne_self_eq_false, Bool.false_eq_true, if_false]
    refine wpAny_pure ⟨_, rfl, ?_⟩
    have S5 := (S4.muTail.ledSub (led' := led) fun p hp => .tail _ hp)
    obtain ⟨e2, S6⟩ : ∃ e2, At c L m (mu' (W.listOf ((p.toList.map fun i => vs.reverse.getD i .none).reverse).toArray e2)) led { s4 with heap := s4.heap.update D (Obj.mapSeq fun _ => ((p.toList.map fun i => vs.reverse.getD i Value.none).reverse).toArray) } := ⟨_, S5.upd (hm _ _) (mapSeq_list _ [] _ e1 rfl) rfl⟩
    have eo2 : (if True then (List.toArray (p.toList.map fun i => vs.reverse.getD i Value.none)).reverse else List.toArray (p.toList.map fun i => vs.reverse.getD i Value.none)) = ((p.toList.map fun i => vs.reverse.getD i Value.none).reverse).toArray := by
      rw [if_pos trivial]; simp
    rw [eo2]
    exact h p e2 _ hp ha S6
  · rw [eo, List.size_toArray, List.length_reverse, List.length_map, Array.length_toList, hp.size, sizeLine_eq]; omega
/-- two pairs by their first items -/
theorem lt_strs {a b : Addr} {x y : Str} {t u : Tok} {v v' : Value} {C : Bool → Shared → Prop} (ha : s.heap.get? a = some (tupO [.str x t, v])) (hb : s.heap.get? b = some (tupO [.str y u, v'])) (hne : x ≠ y)
    (h : C (decide (x.cps.toList < y.cps.toList)) s) : wpAny c.M A (keyLt' (tuples' true) (.ref a) (.ref b)) C (fun _ _ => False) s := by
  refine kat_lt ha rfl hb rfl ?_
  refine kat_cons (wpAny_eqBool_str ?_)
  rw [decide_eq_false hne]
  exact kat_no (oneLt_str h)
theorem lt_self {a : Addr} {x : Str} {i : Int} {t u : Tok} {C : Bool → Shared → Prop} (ha : s.heap.get? a = some (tupO [.str x t, .int i u])) (h : C false s) : wpAny c.M A (keyLt' (tuples' true) (.ref a) (.ref a)) C (fun _ _ => False) s := by
  refine kat_lt ha rfl ha rfl ?_
  refine kat_cons (wpAny_eqBool_str ?_)
  rw [decide_eq_true rfl]
  refine kat_yes (kat_cons (wpAny_eqBool_int ?_))
  rw [beq_self_eq_true]
  exact kat_yes (kat_nil h)
theorem r_sortRevS {D : Addr} {vs : List Value} {n : Nat} (mu' : Obj → List (Addr × Obj)) (S : At c L m (mu' (W.listOf vs.toArray n)) led s) (hm : ∀ o o', SetM D o o' (mu' o) (mu' o')) (h2 : vs.length < 2)
    (h : ∀ e s', At c L m (mu' (W.listOf vs.toArray e)) led s' → Q .none s') :
    wpAny c.M A (call (.builtin "list.sort") [.ref D] [("reverse", .bool true)]) Q E s := by
  have hD := S.muGet (hm (W.listOf vs.toArray n) (W.listOf vs.toArray n)).mem
  have hsz : vs.toArray.size ≤ sizeLine := by rw [List.size_toArray, sizeLine_eq]; omega
  refine wpAny_call_entry_kw slot_list_sort ⟨_, hD, rfl⟩ entry_list_sort ?_ (args_list_sort_rev _ _)
  rw [list_sort_rev]
  refine wpAny_bind (listItems_at hD rfl ?_)
  refine wpAny_bind (listUpdate_at hD rfl ?_ hsz (Nat.zero_le _))
  obtain ⟨e1, S1⟩ : ∃ e1, At c L m (mu' (W.listOf #[] e1)) led { s with heap := s.heap.update D (Obj.mapSeq fun _ => #[]) } := ⟨_, S.upd (hm _ _) (mapSeq_list (fun _ => #[]) vs [] n rfl) rfl⟩
  have hD1 := S1.muGet (hm (W.listOf #[] e1) (W.listOf #[] e1)).mem
  refine wpAny_bind (seqEpoch_at hD1 rfl ?_)
  refine wpAny_bind (r_newTuple S1 (fun hl s2 S2 => ?_) (Nat.ble_eq_true_of_le (by show vs.toArray.toList.length ≤ 16777216; simp; omega)))
  refine wpAny_bind (r_newList S2 (fun ks s3 S3 => ?_) rfl)
  refine wpAny_holding ?_
  dsimp only
  rw [if_pos rfl]
  refine wpAny_bind (wpAny_rule ?_)
  have hn2 : vs.toArray.size < 2 := by rw [List.size_toArray]; omega
  rw [if_pos hn2, if_pos hn2]
  refine wpAny_bind (wpAny_pure ?_)
  rw [StateT.run_pure]
  refine wpAny_bind (wpAny_pure ?_)
  dsimp only
  have hD3 := S3.muGet (.tail _ (hm (W.listOf #[] e1) (W.listOf #[] e1)).mem)
  refine wpAny_bind (seqEpoch_at hD3 rfl ?_)
  have eo : (if true = true then (Array.map (fun x => x.snd) (arrOf (SortSt.mk' general' (if true = true then (vs.toArray.zip vs.toArray).reverse else vs.toArray.zip vs.toArray) #[] 7 none))).reverse
      else Array.map (fun x => x.snd) (arrOf (SortSt.mk' general' (if true = true then (vs.toArray.zip vs.toArray).reverse else vs.toArray.zip vs.toArray) #[] 7 none))) = vs.toArray := by
    rw [if_pos rfl, if_pos rfl]
    show ((vs.toArray.zip vs.toArray).reverse.map (fun x => x.snd)).reverse = vs.toArray
    match vs, h2 with
    | [], _ => simp
    | [x], _ => simp
    | _ :: _ :: _, h => simp at h; omega
  have S5 := (S3.muTail.ledSub (led' := led) fun p hp => .tail _ hp)
  obtain ⟨e2, S6⟩ : ∃ e2, At c L m (mu' (W.listOf vs.toArray e2)) led { s3 with heap := s3.heap.update D (Obj.mapSeq fun _ => vs.toArray) } := ⟨_, S5.upd (hm _ _) (mapSeq_list _ [] _ e1 rfl) rfl⟩
  refine wpAny_bind (listUpdate_at hD3 rfl ?_ (Nat.zero_le _) ?_)
  · rw [eo]
    show wpAny _ _ (do if (e1 != e1) = true then _ else _) _ _ _
    rw [bne_self_eq_false, if_neg (by decide)]
    exact wpAny_pure ⟨_, rfl, h e2 _ S6⟩
  · rw [eo]; exact Nat.le_trans hsz (Nat.le_succ _)
/-- words with their turns -/
def wordR (led : List (Addr × Obj)) (q : Nat × Nat) (v : Value) : Prop := ∃ a t u, v = .ref a ∧ (a, tupO [.str ⟨#[q.1]⟩ t, .int (q.2 : Int) u]) ∈ led
theorem wordR.mono {led led' : List (Addr × Obj)} {q : Nat × Nat} {v : Value} (h : ∀ p ∈ led, p ∈ led') (x : wordR led q v) : wordR led' q v := let ⟨a, t, u, e, hm⟩ := x; ⟨a, t, u, e, h _ hm⟩
theorem kind_words {vs : List Value} {qs : List (Nat × Nat)} {A' : Around} {s1 : Shared} {Q' : SortKind → Shared → Prop} {E' : Value → Shared → Prop} (hr : Reps (wordR led) vs qs) (hne : 0 < qs.length) (hl : ∀ p ∈ led, s1.heap.get? p.1 = some p.2) (h : Q' (tuples' true) s1) : wpAny c.M A' (keyKind' vs.toArray) Q' E' s1 := by
  have key : ∃ fs : List Value, KatTups s1.heap vs fs ∧ fs.length = qs.length ∧ ∀ v ∈ fs, ∃ x t, v = .str x t := by
    clear hne h
    induction hr with
    | nil => exact ⟨[], .nil, rfl, fun v hv => nomatch hv⟩
    | cons h1 _ ih =>
      obtain ⟨fs, f1, f2, f3⟩ := ih
      obtain ⟨a, t, u, rfl, hm⟩ := h1
      refine ⟨_ :: fs, .cons (hl _ hm) rfl rfl rfl f1, by simp [f2], fun v hv => ?_⟩
      rcases List.mem_cons.mp hv with rfl | hv
      · exact ⟨_, _, rfl⟩
      · exact f3 v hv
  obtain ⟨fs, f1, f2, f3⟩ := key
  refine kat_kind (T := .type "str") f1 (by omega) (fun v hv => ?_) (by decide) ?_
  · obtain ⟨x, t, rfl⟩ := f3 v hv
    exact Looks.now
  · exact h
theorem getD_some {vs : List Value} {i : Nat} {v : Value} (h : vs[i]? = some v) : vs.getD i .none = v := by rw [List.getD_eq_getElem?_getD, h]; rfl
theorem Reps.reverse {γ : Type} {rep : γ → Value → Prop} {vs : List Value} {ys : List γ} (h : Reps rep vs ys) : Reps rep vs.reverse ys.reverse := by
  induction h with
  | nil => exact .nil
  | cons h1 _ ih => rw [List.reverse_cons, List.reverse_cons]; exact ih.snoc h1
theorem Reps.pick {γ : Type} {rep : γ → Value → Prop} {vs : List Value} {ys : List γ} (h : Reps rep vs ys) (d : γ) : ∀ (l : List Nat), (∀ i ∈ l, i < ys.length) → Reps rep (l.map fun i => vs.getD i .none) (l.map fun i => ys.getD i d)
  | [], _ => .nil
  | i :: l, hl => by
    have hi := hl i (.head _)
    obtain ⟨v, e, hv⟩ := h.get (i := i) (y := ys.getD i d) (by rw [List.getD_eq_getElem?_getD, List.getElem?_eq_getElem hi]; rfl)
    exact .cons (by show rep (ys.getD i d) (vs.getD i .none); rw [getD_some e]; exact hv) (h.pick d l fun j hj => hl j (.tail _ hj))
theorem r_sortWords {D : Addr} {vs : List Value} {qs : List (Nat × Nat)} {n : Nat} (mu' : Obj → List (Addr × Obj)) (S : At c L m (mu' (W.listOf vs.toArray n)) led s) (hm : ∀ o o', SetM D o o' (mu' o) (mu' o')) (hr : Reps (wordR led) vs qs) (h64 : qs.length < 64) (hnd : (qs.map (·.1)).Nodup)
    (h : ∀ vs' qs' e s', Reps (wordR led) vs' qs' → qs'.Perm qs → qs'.Pairwise (fun a b => b.1 ≤ a.1) → At c L m (mu' (W.listOf vs'.toArray e)) led s' → Q .none s') :
    wpAny c.M A (call (.builtin "list.sort") [.ref D] [("reverse", .bool true)]) Q E s := by
  have hlen := hr.length
  by_cases h2 : vs.length < 2
  · refine r_sortRevS mu' S hm h2 fun e s' S' => h vs qs e s' hr (List.Perm.refl _) ?_ S'
    match qs, hlen with
    | [], _ => exact .nil
    | [x], _ => exact .cons (fun _ hx => nomatch hx) .nil
    | _ :: _ :: _, q => simp at q; omega
  · have hrr := hr.reverse
    have hrl : qs.reverse.length = vs.length := by simp [hlen]
    have hnd' : (qs.reverse.map (·.1)).Nodup := by rw [List.map_reverse]; exact (List.reverse_perm _).nodup_iff.mpr hnd
    have at_ : ∀ i, i < vs.length → ∃ v, vs.reverse[i]? = some v ∧ wordR led (qs.reverse.getD i (0, 0)) v := fun i hi => hrr.get (by rw [List.getD_eq_getElem?_getD, List.getElem?_eq_getElem (by omega)]; rfl)
    have inj : ∀ i j, i < vs.length → j < vs.length → (qs.reverse.getD i (0, 0)).1 = (qs.reverse.getD j (0, 0)).1 → i = j := fun i j hi hj e => by
      have e1 : (qs.reverse.map (·.1))[i]'(by simpa using (hlen ▸ hi)) = (qs.reverse.map (·.1))[j]'(by simpa using (hlen ▸ hj)) := by
        have a1 : (qs.reverse.getD i (0, 0)) = qs.reverse[i]'(by omega) := by rw [List.getD_eq_getElem?_getD, List.getElem?_eq_getElem (by omega)]; rfl
        have a2 : (qs.reverse.getD j (0, 0)) = qs.reverse[j]'(by omega) := by rw [List.getD_eq_getElem?_getD, List.getElem?_eq_getElem (by omega)]; rfl
        rw [a1, a2] at e
        simpa using e
      exact (List.getElem_inj hnd').mp e1
    refine r_sortRev (κ := tuples' true) mu' S hm (by omega) (by omega) (fun i => (((qs.reverse.getD i (0, 0)).1 : Nat) : Int)) (fun i j hi hj e => inj i j hi hj (by omega)) (fun A' s1 hl Q' E' q => kind_words hr (by omega) hl q) (fun A' s1 i j hi hj hl C q => ?_) ?_
    · obtain ⟨vi, ei, a, t, u, rfl, ha⟩ := at_ i hi
      obtain ⟨vj, ej, b, t', u', rfl, hb⟩ := at_ j hj
      rw [getD_some ei, getD_some ej]
      by_cases hij : i = j
      · subst hij
        rw [ei] at ej
        cases ej
        refine lt_self (hl _ ha) ?_
        have : decide (((qs.reverse.getD i (0, 0)).1 : Int) < ((qs.reverse.getD i (0, 0)).1 : Int)) = false := by simp
        rwa [this] at q
      · have hne : (qs.reverse.getD i (0, 0)).1 ≠ (qs.reverse.getD j (0, 0)).1 := fun e => hij (inj i j hi hj e)
        refine lt_strs (hl _ ha) (hl _ hb) (fun e => hne (by injection e with e; simpa using e)) ?_
        have : decide ((⟨#[(qs.reverse.getD i (0, 0)).1]⟩ : Str).cps.toList < (⟨#[(qs.reverse.getD j (0, 0)).1]⟩ : Str).cps.toList) = decide (((qs.reverse.getD i (0, 0)).1 : Int) < ((qs.reverse.getD j (0, 0)).1 : Int)) := by
          apply decide_eq_decide.mpr
          show [_] < [_] ↔ _
          rw [List.cons_lt_cons_iff]
          simp
        rw [this]
        exact q
    · intro p e s' hp ha S'
      have hlt : ∀ i ∈ p.toList, i < qs.reverse.length := fun i hi => by rw [hrl]; exact List.mem_range.mp (hp.perm.mem_iff.mp hi)
      refine h _ ((p.toList.map fun i => qs.reverse.getD i (0, 0)).reverse) e s' (hrr.pick (0, 0) p.toList hlt).reverse ?_ ?_ S'
      · refine (List.reverse_perm _).trans ?_
        have h1 : (p.toList.map fun i => qs.reverse.getD i (0, 0)).Perm ((List.range vs.length).map fun i => qs.reverse.getD i (0, 0)) := hp.perm.map _
        have h2 : ((List.range vs.length).map fun i => qs.reverse.getD i (0, 0)) = qs.reverse := by
          apply List.ext_getElem (by simp [hlen])
          intro i a1 a2
          simp [List.getD, List.getElem?_eq_getElem a2]
        rw [h2] at h1
        exact h1.trans (List.reverse_perm _)
      · rw [List.pairwise_reverse, List.pairwise_map]
        rw [List.pairwise_iff_getElem]
        intro i j a1 a2 a3
        have := ha i j (by omega) (by have := hp.size; simp at a2; omega)
        unfold Kp at this
        have e1 : p.getD i 0 = p.toList[i] := by have := a1; simp at this; simp [Array.getD, this]
        have e2 : p.getD j 0 = p.toList[j] := by have := a2; simp at this; simp [Array.getD, this]
        rw [e1, e2] at this
        show (qs.reverse.getD p.toList[i] (0, 0)).1 ≤ (qs.reverse.getD p.toList[j] (0, 0)).1
        exact Int.ofNat_le.mp this
end
/- Fw37 -/
set_option autoImplicit false
/-! folding words: pure -/
def stepF (T : Nat) (st : List (List Nat) × List Nat) (c : Nat) : List (List Nat) × List Nat := if st.2.length < T then (st.1, st.2 ++ [c]) else (st.1 ++ [st.2], [c])
def foldF (T : Nat) (line : List Nat) : List (List Nat) × List Nat := line.foldl (stepF T) ([], [])
def rowsF (T : Nat) (line : List Nat) : List (List Nat) := (foldF T line).1 ++ [(foldF T line).2]
theorem foldF_snoc (T : Nat) (l : List Nat) (c : Nat) : foldF T (l ++ [c]) = stepF T (foldF T l) c := by simp [foldF]
theorem take_snoc {l : List Nat} {j c : Nat} (h : l[j]? = some c) : l.take (j + 1) = l.take j ++ [c] := by rw [List.take_add_one, h]; rfl
structure FoldOk (T : Nat) (l : List Nat) (st : List (List Nat) × List Nat) : Prop where
  flat : st.1.flatten ++ st.2 = l
  full : ∀ r ∈ st.1, r.length = T
  cur : st.2.length ≤ T
  ne : l ≠ [] → st.2 ≠ []
theorem foldF_ok {T : Nat} (hT : 1 ≤ T) : ∀ (n : Nat) (l : List Nat), l.length = n → FoldOk T l (foldF T l)
  | 0, l, h => by
    have : l = [] := List.eq_nil_of_length_eq_zero h
    subst this
    exact ⟨rfl, fun _ h => (nomatch h), Nat.zero_le _, fun h => absurd rfl h⟩
  | n + 1, l, h => by
    obtain ⟨l', c, rfl⟩ : ∃ l' c, l = l' ++ [c] := ⟨l.dropLast, l.getLast (by intro e; rw [e] at h; cases h), (List.dropLast_concat_getLast _).symm⟩
    have ih := foldF_ok hT n l' (by simpa using h)
    rw [foldF_snoc]
    unfold stepF
    split
    · rename_i q
      exact ⟨by show _ ++ (_ ++ [c]) = _; rw [← List.append_assoc, ih.flat], ih.full, by simp; omega, fun _ => by simp⟩
    · rename_i q
      refine ⟨by simp [ih.flat], fun r hr => ?_, by simpa using hT, fun _ => by simp⟩
      rcases List.mem_append.mp hr with hr | hr
      · exact ih.full r hr
      · rw [List.mem_singleton.mp hr]
        have := ih.cur
        omega
/-- parts of words -/
def wp (c : Nat) : List (Str × Str) := [("", "."), ("", ⟨#[c, 59]⟩)]
def wps (cs : List Nat) : List (Str × Str) := cs.flatMap wp
def fps (ps : List Part) : List (Str × Str) := ps.map fun q => (q.f, q.p)
def dotP (dot : Bool) : List (Str × Str) := if dot then [("", ".")] else []
theorem wps_append (a b : List Nat) : wps (a ++ b) = wps a ++ wps b := by simp [wps]
theorem wps_length (cs : List Nat) : (wps cs).length = 2 * cs.length := by
  induction cs with
  | nil => rfl
  | cons c cs ih => show (wp c ++ wps cs).length = _; rw [List.length_append, ih]; simp [wp]; omega
theorem wps_get (cs : List Nat) : ∀ (m : Nat), m < cs.length → (wps cs)[2 * m]? = some (("" : Str), ("." : Str)) ∧ (wps cs)[2 * m + 1]? = some (("" : Str), (⟨#[cs.getD m 0, 59]⟩ : Str)) := by
  induction cs with
  | nil => intro m h; simp at h
  | cons c cs ih =>
    intro m h
    cases m with
    | zero => exact ⟨rfl, rfl⟩
    | succ m =>
      have := ih m (by simpa using h)
      have e : wps (c :: cs) = (("" : Str), ("." : Str)) :: (("" : Str), (⟨#[c, 59]⟩ : Str)) :: wps cs := rfl
      rw [e, show 2 * (m + 1) = 2 * m + 1 + 1 by omega]
      simpa using this
theorem lenOf_fps (ps : List Part) : lenOf ps = ((fps ps).map fun x => x.1.length + x.2.length).sum := by
  unfold lenOf fps; rw [List.map_map]; rfl
theorem textOf_fps (ps : List Part) : textOf ps = Str.join "" ((fps ps).map fun x => x.1 ++ x.2) := by
  unfold textOf fps; rw [List.map_map]; rfl
theorem wps_len (cs : List Nat) : ((wps cs).map fun x => x.1.length + x.2.length).sum = 3 * cs.length := by
  induction cs with
  | nil => rfl
  | cons c cs ih =>
    show ((wp c ++ wps cs).map _).sum = _
    rw [List.map_append, List.sum_append, ih]
    have : ((wp c).map fun x => x.1.length + x.2.length).sum = 3 := by
      show (("" : Str).length + ("." : Str).length) + ((("" : Str).length + 2) + 0) = 3
      decide +kernel
    rw [this, List.length_cons]; omega
theorem fst_dot : startsB (".": Str) 46 = true := by decide +kernel
theorem ends_dot : endsB ("." : Str) 59 = false := by decide +kernel
theorem ends_word (c : Nat) : endsB ⟨#[c, 59]⟩ 59 = true := rfl
theorem cutB_fps (ps : List Part) (i : Nat) : cutB false 59 ps i = endsB ((fps ps).getD (i - 1) ("", "")).2 59 := by
  unfold cutB
  rw [Bool.false_and, Bool.false_or]
  congr 1
  unfold fps
  rw [List.getD_eq_getElem?_getD, List.getD_eq_getElem?_getD, List.getElem?_map]
  cases ps[i - 1]? with
  | none => rfl
  | some q => rfl
/-- where a line of words may be cut -/
theorem cut_even {ps : List Part} {cs : List Nat} {tl : List (Str × Str)} (h : fps ps = wps cs ++ tl) {m : Nat} (hm : m < cs.length) : cutB false 59 ps (2 * m + 2) = true := by
  rw [cutB_fps, h, List.getD_eq_getElem?_getD, show 2 * m + 2 - 1 = 2 * m + 1 by omega, List.getElem?_append_left (by rw [wps_length]; omega), (wps_get cs m hm).2]
  exact ends_word _
theorem cut_dot {ps : List Part} {cs : List Nat} {tl : List (Str × Str)} (h : fps ps = wps cs ++ (("" : Str), ("." : Str)) :: tl) : cutB false 59 ps (2 * cs.length + 1) = false := by
  rw [cutB_fps, h, List.getD_eq_getElem?_getD, show 2 * cs.length + 1 - 1 = 2 * cs.length by omega, List.getElem?_append_right (by rw [wps_length]; omega), wps_length, Nat.sub_self]
  exact ends_dot
/-- the text of a row -/
def rowText (cs : List Nat) : List Nat := cs.flatMap fun c => [46, c, 59]
def rowS (cs : List Nat) : Str := ⟨(rowText cs).toArray⟩
theorem rowS_list (cs : List Nat) : (rowS cs).cps.toList = rowText cs := by simp [rowS]
theorem text_wps (cs : List Nat) : Str.join "" ((wps cs).map fun x => x.1 ++ x.2) = rowS cs := by
  refine str_ext ?_
  rw [join_flat, rowS_list]
  induction cs with
  | nil => rfl
  | cons c cs ih =>
    show flatS ((wp c ++ wps cs).map _) = [46, c, 59] ++ rowText cs
    rw [List.map_append, flatS_append, ih]
    rfl
theorem textOf_words {ps : List Part} {cs : List Nat} (h : fps ps = wps cs) : textOf ps = rowS cs := by rw [textOf_fps, h, text_wps]
theorem rowText_len (cs : List Nat) : (rowText cs).length = 3 * cs.length := by
  induction cs with
  | nil => rfl
  | cons c cs ih => show ([46, c, 59] ++ rowText cs).length = _; rw [List.length_append, ih]; simp; omega
/-! the mail of words -/
def WordsOk (cs : List Nat) : Prop := ∀ c ∈ cs, 97 ≤ c ∧ c < 1000
theorem row_flat {cs : List Nat} (h : WordsOk cs) : Flat (rowText cs) := by
  intro x hx
  obtain ⟨c, hc, hx⟩ := List.mem_flatMap.mp hx
  have := h c hc
  simp only [List.mem_cons, List.not_mem_nil, or_false] at hx
  omega
theorem row_stuff (c : Nat) (cs : List Nat) : stuffRow (rowText (c :: cs)) = 46 :: rowText (c :: cs) := rfl
theorem crlf_rows (sep : Str) (hs : IsEnd sep.cps.toList) : ∀ (rows : List (List Nat)), rows ≠ [] → (∀ r ∈ rows, WordsOk r ∧ r ≠ []) →
    quoteL (Str.join sep (rows.map rowS)).cps.toList = (Str.join "\r\n" (rows.map fun r => (⟨(46 :: rowText r).toArray⟩ : Str))).cps.toList
  | [], h, _ => absurd rfl h
  | [r], _, h => by
    have hr := h r (.head _)
    obtain ⟨c, l, e⟩ := List.exists_cons_of_ne_nil hr.2
    show quoteL (rowS r).cps.toList = (⟨(46 :: rowText r).toArray⟩ : Str).cps.toList
    rw [rowS_list, quote_last (row_flat hr.1), e, row_stuff]
  | r :: r' :: rows, _, h => by
    have hr := h r (.head _)
    obtain ⟨c, l, e⟩ := List.exists_cons_of_ne_nil hr.2
    have ih := crlf_rows sep hs (r' :: rows) (by simp) fun q hq => h q (.tail _ hq)
    have hr' := h r' (.tail _ (.head _))
    obtain ⟨c', l', e'⟩ := List.exists_cons_of_ne_nil hr'.2
    have hh : (Str.join sep ((r' :: rows).map rowS)).cps.toList.head? ≠ some 10 := by
      cases rows with
      | nil =>
        show (rowS r').cps.toList.head? ≠ _
        rw [rowS_list, e']; simp [rowText]
      | cons r2 rows =>
        rw [List.map_cons, List.map_cons, join_cons, rowS_list, e']; simp [rowText]
    rw [List.map_cons, List.map_cons, join_cons, ← List.map_cons, rowS_list, quote_row (row_flat hr.1) hs hh, ih]
    refine Eq.trans ?_ (join_cons "\r\n" (⟨(46 :: rowText r).toArray⟩ : Str) (⟨(46 :: rowText r').toArray⟩ : Str) (rows.map fun r => (⟨(46 :: rowText r).toArray⟩ : Str))).symm
    rw [crlf_cps, e, row_stuff]; simp
/-- what stands in the mail, word by word -/
def rowWords : List Nat → List Str
  | [] => []
  | c :: cs => ⟨#[46, 46, c]⟩ :: cs.map fun c => ⟨#[46, c]⟩
def wordsOf (rows : List (List Nat)) : List Str := rows.flatMap rowWords
theorem semi_cps : (";" : Str).cps.toList = [59] := by decide +kernel
theorem join_semi : ∀ ws : List Str, (Str.join ";" (ws ++ [⟨#[]⟩])).cps.toList = (ws.map fun w => w.cps.toList ++ [59]).flatten
  | [] => by simp [Str.join]
  | [p] => by
    rw [List.cons_append, List.nil_append, join_cons, semi_cps]
    simp [Str.join]
  | p :: q :: r => by
    have ih := join_semi (q :: r)
    rw [List.cons_append] at ih
    rw [List.cons_append, List.cons_append, join_cons, semi_cps, ih]
    simp
theorem row_words (r : List Nat) (h : r ≠ []) : ((rowWords r).map fun w => w.cps.toList ++ [59]).flatten = 46 :: rowText r := by
  obtain ⟨c, cs, rfl⟩ := List.exists_cons_of_ne_nil h
  show [46, 46, c, 59] ++ ((cs.map fun c => (⟨#[46, c]⟩ : Str)).map fun w => w.cps.toList ++ [59]).flatten = 46 :: ([46, c, 59] ++ rowText cs)
  have : ((cs.map fun c => (⟨#[46, c]⟩ : Str)).map fun w => w.cps.toList ++ [59]).flatten = rowText cs := by
    unfold rowText
    rw [List.map_map, List.flatMap_def]
    rfl
  rw [this]; rfl
theorem sent_words (sep : Str) (hs : IsEnd sep.cps.toList) {rows : List (List Nat)} (hne : rows ≠ []) (h : ∀ r ∈ rows, WordsOk r ∧ r ≠ []) :
    Txt.split (Txt.replace (quoteP (Str.join sep (rows.map rowS))) "\r\n" "") ";" = wordsOf rows ++ [⟨#[]⟩] := by
  have e1 : quoteP (Str.join sep (rows.map rowS)) = Str.join "\r\n" (rows.map fun r => (⟨(46 :: rowText r).toArray⟩ : Str)) := str_ext (by rw [quoteP_list, crlf_rows sep hs rows hne h])
  have fl : ∀ r ∈ rows, Flat (46 :: rowText r) := fun r hr c hc => by
    rcases List.mem_cons.mp hc with rfl | hc
    · omega
    · exact row_flat (h r hr).1 c hc
  rw [e1, replace_join _ _ (by decide +kernel) (by decide +kernel), split_join crlf_cps (by decide) (by decide +kernel) _ (by simpa using hne) (fun p hp => by
    obtain ⟨r, hr, rfl⟩ := List.mem_map.mp hp
    have := flat_no13 (fl r hr)
    simpa using this)]
  have e2 : Str.join "" (rows.map fun r => (⟨(46 :: rowText r).toArray⟩ : Str)) = Str.join ";" (wordsOf rows ++ [⟨#[]⟩]) := by
    refine str_ext ?_
    rw [join_flat, join_semi]
    unfold wordsOf
    clear e1 fl hne
    induction rows with
    | nil => rfl
    | cons r rows ih =>
      rw [List.map_cons, flatS_cons, List.flatMap_cons, List.map_append, List.flatten_append, row_words r (h r (.head _)).2, ih fun q hq => h q (.tail _ hq)]
  rw [e2]
  refine split_join semi_cps (by decide) (by decide +kernel) _ (by simp) fun p hp => ?_
  rcases List.mem_append.mp hp with hp | hp
  · obtain ⟨r, hr, hp⟩ := List.mem_flatMap.mp hp
    obtain ⟨c, cs, e⟩ := List.exists_cons_of_ne_nil (h r hr).2
    have hw := (h r hr).1
    rw [e] at hp hw
    rcases List.mem_cons.mp hp with rfl | hp
    · have := hw c (.head _)
      simp; omega
    · obtain ⟨d, hd, rfl⟩ := List.mem_map.mp hp
      have := hw d (.tail _ hd)
      simp; omega
  · rw [List.mem_singleton.mp hp]; simp
/-! rounds -/
def headsOf (rows : List (List Nat)) : List Nat := rows.filterMap List.head?
def tailsOf (rows : List (List Nat)) : List Nat := rows.flatMap List.tail
structure Rnd where
  line : List Nat
  rooms : List Int
  struck : List (Nat × Nat)
def turnOf (turn : Nat) (st : Rnd) : Rnd :=
  if st.line = [] then st else
  let rows := rowsF (turn + 1) st.line
  ⟨tailsOf rows, st.rooms ++ [((turn + 1 : Nat) : Int) * ((headsOf rows).length : Nat) - (st.line.length : Nat)], st.struck ++ (headsOf rows).map fun c => (c, turn)⟩
def rndI (count : Nat) : Nat → Rnd
  | 0 => ⟨(List.range count).map (97 + ·), [], []⟩
  | i + 1 => turnOf (i + 1) (rndI count i)
theorem heads_tails : ∀ rows : List (List Nat), (headsOf rows ++ tailsOf rows).Perm rows.flatten
  | [] => List.Perm.refl _
  | [] :: rows => by
    have := heads_tails rows
    exact this
  | (c :: cs) :: rows => by
    have ih := heads_tails rows
    have e1 : headsOf ((c :: cs) :: rows) = c :: headsOf rows := rfl
    have e2 : tailsOf ((c :: cs) :: rows) = cs ++ tailsOf rows := rfl
    rw [e1, e2, List.flatten_cons]
    show (c :: (headsOf rows ++ (cs ++ tailsOf rows))).Perm (c :: (cs ++ rows.flatten))
    refine .cons _ ?_
    rw [← List.append_assoc]
    refine (List.Perm.append_right _ List.perm_append_comm).trans ?_
    rw [List.append_assoc]
    exact List.Perm.append_left _ ih
theorem rnd_perm (count : Nat) : ∀ i, ((rndI count i).line ++ (rndI count i).struck.map (·.1)).Perm ((List.range count).map (97 + ·))
  | 0 => by simp [rndI]
  | i + 1 => by
    have ih := rnd_perm count i
    unfold rndI turnOf
    split
    · exact ih
    · have ok := foldF_ok (T := i + 1 + 1) (by omega) _ (rndI count i).line rfl
      have ht := heads_tails (rowsF (i + 1 + 1) (rndI count i).line)
      have hfl : (rowsF (i + 1 + 1) (rndI count i).line).flatten = (rndI count i).line := by
        unfold rowsF
        rw [List.flatten_append, List.flatten_cons, List.flatten_nil, List.append_nil, ok.flat]
      rw [hfl] at ht
      show (tailsOf _ ++ ((rndI count i).struck ++ _).map (·.1)).Perm _
      rw [List.map_append, List.map_map]
      have e : ((headsOf (rowsF (i + 1 + 1) (rndI count i).line)).map ((·.1) ∘ fun c => (c, i + 1))) = headsOf (rowsF (i + 1 + 1) (rndI count i).line) := by
        simp [Function.comp_def]
      rw [e]
      refine List.Perm.trans ?_ ih
      refine List.Perm.trans ?_ (ht.append_right _)
      refine (List.Perm.append_left _ List.perm_append_comm).trans ?_
      rw [← List.append_assoc]
      exact List.Perm.append_right _ List.perm_append_comm
/- Fw38 -/
set_option autoImplicit false
section
variable {c : Cx} {L : Addr} {m : Loc} {mu led : List (Addr × Obj)} {s : Shared} {A : Around} {E : Value → Shared → Prop} {env : Env} {Q : Value → Shared → Prop}
theorem st_lT {x : Str} {v : Value} {m' : Loc} {Q : Unit → Shared → Prop} (S : At c env.locals m mu led s) (h : ∀ s', 0 < s'.toks → At c env.locals m' mu led s' → Q () s') (hs : SetAt x (some v) m m' := by walk_at "set")
    (hk : env.scope.kind = .function := by kernel_rfl) (hl : env.kindOf x = some .local := by kernel_rfl) : wpAny c.M A (storeName env x v) Q E s := by
  obtain ⟨nd, f, hn, hf⟩ := S.ns
  refine wpAny_storeName_local hl hn (fun h' hn' hs' => h _ (Nat.succ_pos _) (S.store ⟨by rw [hs.keys]; exact nd, _, hn', fun y u hm => ?_⟩ hs')) (by rw [hk]; rfl)
  rcases hs.mem nd y _ hm with ⟨rfl, e⟩ | ⟨ne, hm'⟩
  · cases e; simp
  · simp only [ne, if_false]; exact hf _ _ hm'
theorem r_strT {x : Str} {k : Nat} {pos : Pos} (S : At c L m mu led s) (h : At c L m mu led { s with toks := s.toks + 1 } → Q (.str x s.toks) { s with toks := s.toks + 1 }) : wpAny c.M A (eval (.Constant (.str x) k pos) env) Q E s :=
  Constant_str (h (S.toks _))
theorem r_replace {x y z : Str} {t u v : Tok} (S : At c L m mu led s) (hu : u ≠ 0) (hv : v ≠ 0) (huv : u ≠ v) (hyz : (y == z) = false) (hx : x.length ≤ 1000000) (hz : z.length ≤ 10)
    (h : ∀ t' s', At c L m mu led s' → Q (.str (Txt.replace x y z) t') s') : wpAny c.M A (call (.builtin "str.replace") [.str x t, .str y u, .str z v]) Q E s :=
  SC.replaceW hu hv huv hyz (by omega) (by omega) fun t' k => h t' _ (S.toks k)
theorem r_unpackItems {t : Addr} {vs : List Value} {n : Nat} {Q : List Value → Shared → Prop} (S : At c L m mu led s) (hh : A.handled = none) (ht : (t, tupO vs) ∈ led) (hn : vs.length = n) (h : ∀ s', At c L m mu led s' → Q vs s') : wpAny c.M A (unpackItems (.ref t) n none) Q E s := by
  have := unpackItems_tuple (prog := c.prog) (w := c.w) (E := E) (Q := Q) hh (s := s) (t := t) (items := vs.toArray) ⟨_, S.ledGet ht, rfl, _, rfl⟩ fun h' he => h _ (S.same (t := s.toks) fun b o e => he b o (Nat.ne_of_lt (Heap.lt_size e)) e)
  rw [List.size_toArray, hn] at this
  exact this
theorem At.rot4 {x y z u : Addr × Obj} (S : At c L m (x :: y :: z :: u :: mu) led s) : At c L m (y :: z :: u :: x :: mu) led s := S.perm ((List.Perm.swap _ _ _).trans (.cons _ ((List.Perm.swap _ _ _).trans (.cons _ (.swap _ _ _)))))
end
theorem refsOf_length (ps : List Part) : (refsOf ps).length = ps.length := by simp [refsOf]
theorem fps_length (ps : List Part) : (fps ps).length = ps.length := by simp [fps]
theorem fps_append (a b : List Part) : fps (a ++ b) = fps a ++ fps b := by simp [fps]
theorem fps_take (a : List Part) (k : Nat) : fps (a.take k) = (fps a).take k := by simp [fps, List.map_take]
theorem fps_drop (a : List Part) (k : Nat) : fps (a.drop k) = (fps a).drop k := by simp [fps, List.map_drop]
theorem small_of {ps : List Part} {cs : List Nat} {dot : Bool} (h : fps ps = wps cs ++ dotP dot) : ∀ q ∈ ps, q.f.length ≤ 100000 ∧ q.p.length ≤ 100000 := by
  intro q hq
  have hm : (q.f, q.p) ∈ fps ps := List.mem_map.mpr ⟨q, hq, rfl⟩
  rw [h] at hm
  have e0 : ("" : Str).length = 0 := by decide +kernel
  have e1 : ("." : Str).length = 1 := by decide +kernel
  rcases List.mem_append.mp hm with hm | hm
  · obtain ⟨c, _, hm⟩ := List.mem_flatMap.mp hm
    unfold wp at hm
    rcases List.mem_cons.mp hm with e | hm
    · injection e with e2 e3
      rw [e2, e3, e0, e1]; omega
    · injection (List.mem_singleton.mp hm) with e2 e3
      rw [e2, e3, e0]
      show 0 ≤ 100000 ∧ 2 ≤ 100000
      omega
  · unfold dotP at hm
    split at hm
    · injection (List.mem_singleton.mp hm) with e2 e3
      rw [e2, e3, e0, e1]; omega
    · cases hm
theorem dotP_len (dot : Bool) : ((dotP dot).map fun x => x.1.length + x.2.length).sum = if dot then 1 else 0 := by
  cases dot
  · rfl
  · decide +kernel
theorem lenOf_words {ps : List Part} {cs : List Nat} {dot : Bool} (h : fps ps = wps cs ++ dotP dot) : lenOf ps = 3 * cs.length + if dot then 1 else 0 := by
  rw [lenOf_fps, h, List.map_append, List.sum_append, wps_len, dotP_len]
theorem count_words {ps : List Part} {cs : List Nat} {dot : Bool} (h : fps ps = wps cs ++ dotP dot) : ps.length = 2 * cs.length + if dot then 1 else 0 := by
  rw [← fps_length, h, List.length_append, wps_length]
  cases dot <;> rfl
/- Fw39 -/
set_option autoImplicit false
def codeS (c : Nat) : Str := ⟨#[c]⟩
theorem strOk_code {c : Nat} (h : c < 1000) : PyData.strOk (codeS c) = true := by
  unfold PyData.strOk codeS
  simp; omega
def hdB (w : Str) : Bool := Txt.slice w none (some ((2 : Nat) : Int)) == ".."
def hdOf (w : Str) : Option Str := if hdB w = true then some (Txt.slice w (some ((2 : Nat) : Int)) none) else none
def tlOf (w : Str) : Option Str := if hdB w = true then none else some (Txt.slice w (some ((1 : Nat) : Int)) none)
theorem hdB_head (c : Nat) : hdB ⟨#[46, 46, c]⟩ = true := by
  unfold hdB
  rw [slice_to]
  show ((⟨[46, 46].toArray⟩ : Str) == "..") = true
  decide +kernel
theorem hdB_tail {c : Nat} (h : c ≠ 46) : hdB ⟨#[46, c]⟩ = false := by
  unfold hdB
  rw [slice_to]
  apply beq_eq_false_iff_ne.mpr
  intro e
  have := congrArg (fun s : Str => s.cps.toList) e
  have e2 : (".." : Str).cps.toList = [46, 46] := by decide +kernel
  rw [e2] at this
  have this : [46, c] = [46, 46] := this
  exact h (by injection this with _ h2; injection h2)
theorem hd_head (c : Nat) : hdOf ⟨#[46, 46, c]⟩ = some (codeS c) ∧ tlOf ⟨#[46, 46, c]⟩ = none := by
  unfold hdOf tlOf
  rw [hdB_head, if_pos rfl, if_pos rfl, slice_from]
  exact ⟨rfl, rfl⟩
theorem hd_tail {c : Nat} (h : c ≠ 46) : hdOf ⟨#[46, c]⟩ = none ∧ tlOf ⟨#[46, c]⟩ = some (codeS c) := by
  unfold hdOf tlOf
  rw [hdB_tail h, if_neg (by decide), if_neg (by decide), slice_from]
  exact ⟨rfl, rfl⟩
theorem words_heads : ∀ {rows : List (List Nat)}, (∀ r ∈ rows, WordsOk r) → (wordsOf rows).filterMap hdOf = (headsOf rows).map codeS ∧ (wordsOf rows).filterMap tlOf = (tailsOf rows).map codeS
  | [], _ => ⟨rfl, rfl⟩
  | [] :: rows, h => words_heads (rows := rows) fun r hr => h r (.tail _ hr)
  | (c :: cs) :: rows, h => by
    have ih := words_heads (rows := rows) fun r hr => h r (.tail _ hr)
    have hw := h _ (.head _)
    have tl : ∀ l : List Nat, (∀ c ∈ l, c ≠ 46) → (l.map fun c => (⟨#[46, c]⟩ : Str)).filterMap hdOf = [] ∧ (l.map fun c => (⟨#[46, c]⟩ : Str)).filterMap tlOf = l.map codeS := by
      intro l
      induction l with
      | nil => intro _; exact ⟨rfl, rfl⟩
      | cons d l ihl =>
        intro hl
        have h1 := hd_tail (hl d (.head _))
        have h2 := ihl fun x hx => hl x (.tail _ hx)
        rw [List.map_cons, List.filterMap_cons, List.filterMap_cons, h1.1, h1.2, h2.2, h2.1]
        exact ⟨rfl, rfl⟩
    have h2 := tl cs fun x hx => by have := hw x (.tail _ hx); omega
    have h1 := hd_head c
    have e : wordsOf ((c :: cs) :: rows) = ⟨#[46, 46, c]⟩ :: (cs.map (fun c => (⟨#[46, c]⟩ : Str)) ++ wordsOf rows) := rfl
    rw [e, List.filterMap_cons, List.filterMap_cons, h1.1, h1.2, List.filterMap_append, List.filterMap_append, h2.1, h2.2, ih.1, ih.2]
    refine ⟨rfl, ?_⟩
    show cs.map codeS ++ (tailsOf rows).map codeS = ((cs ++ tailsOf rows)).map codeS
    rw [List.map_append]
theorem filterMap_at {α β : Type} (d : α) (f : α → Option β) (l : List α) : (List.range l.length).filterMap (fun k => f (l.getD k d)) = l.filterMap f := by
  induction l with
  | nil => rfl
  | cons a l ih =>
    rw [List.length_cons, List.range_succ_eq_map, List.filterMap_cons, List.filterMap_map, List.filterMap_cons]
    have : (fun k => f ((a :: l).getD k d)) ∘ Nat.succ = fun k => f (l.getD k d) := by funext k; rfl
    rw [this, ih]
    rfl
theorem wordsOf_length : ∀ {rows : List (List Nat)}, (∀ r ∈ rows, r ≠ []) → (wordsOf rows).length = rows.flatten.length
  | [], _ => rfl
  | r :: rows, h => by
    obtain ⟨c, cs, rfl⟩ := List.exists_cons_of_ne_nil (h r (.head _))
    have ih := wordsOf_length (rows := rows) fun r hr => h r (.tail _ hr)
    have e : wordsOf ((c :: cs) :: rows) = ⟨#[46, 46, c]⟩ :: (cs.map (fun c => (⟨#[46, c]⟩ : Str)) ++ wordsOf rows) := rfl
    rw [e, List.flatten_cons, List.length_cons, List.length_append, List.length_map, ih, List.length_append, List.length_cons]
    omega
theorem rowsF_ok {T : Nat} (hT : 1 ≤ T) {l : List Nat} (hne : l ≠ []) (hw : WordsOk l) : (∀ r ∈ rowsF T l, WordsOk r ∧ r ≠ []) ∧ rowsF T l ≠ [] ∧ (rowsF T l).flatten = l := by
  have ok := foldF_ok hT _ l rfl
  have hfl : (rowsF T l).flatten = l := by
    unfold rowsF
    rw [List.flatten_append, List.flatten_cons, List.flatten_nil, List.append_nil, ok.flat]
  refine ⟨fun r hr => ⟨fun c hc => hw c ?_, ?_⟩, by unfold rowsF; simp, hfl⟩
  · rw [← hfl]; exact List.mem_flatten.mpr ⟨r, hr, hc⟩
  · unfold rowsF at hr
    rcases List.mem_append.mp hr with hr | hr
    · intro e
      have := ok.full r hr
      rw [e] at this
      simp at this; omega
    · rw [List.mem_singleton.mp hr]; exact ok.ne hne
theorem foldF_len {T : Nat} (hT : 1 ≤ T) (l : List Nat) : (foldF T l).1.length ≤ l.length := by
  have ok := foldF_ok hT _ l rfl
  have h1 : (foldF T l).1.flatten.length ≤ l.length := by
    have := congrArg List.length ok.flat
    rw [List.length_append] at this
    omega
  have h2 : ∀ rs : List (List Nat), (∀ r ∈ rs, r.length = T) → rs.length ≤ rs.flatten.length := by
    intro rs
    induction rs with
    | nil => intro _; simp
    | cons r rs ih =>
      intro h
      have h3 := h r (.head _)
      have h4 := ih fun x hx => h x (.tail _ hx)
      rw [List.flatten_cons, List.length_append, List.length_cons]; omega
  exact Nat.le_trans (h2 _ ok.full) h1
theorem wps_last {cs : List Nat} (h : cs ≠ []) : ∃ l c, c ∈ cs ∧ wps cs = l ++ [(("" : Str), (⟨#[c, 59]⟩ : Str))] := by
  refine ⟨wps cs.dropLast ++ [(("" : Str), ("." : Str))], cs.getLast h, List.getLast_mem h, ?_⟩
  conv => lhs; rw [← List.dropLast_concat_getLast h]
  rw [wps_append]
  show _ ++ [(("" : Str), ("." : Str)), ("", _)] = _
  simp
theorem rowS_space {cs : List Nat} (h : cs ≠ []) : Txt.isspace (rowS cs) = false := by
  obtain ⟨c, l, rfl⟩ := List.exists_cons_of_ne_nil h
  unfold Txt.isspace
  have : (rowS (c :: l)).cps.all Unicode.isSpace = false := by
    rw [← Array.all_toList, rowS_list]
    show ([46, c, 59] ++ rowText l).all Unicode.isSpace = false
    have e : Unicode.isSpace 46 = false := by decide +kernel
    simp [e]
  rw [this, Bool.and_false]
theorem join_le (y : Str) : ∀ ps : List Str, (Str.join y ps).cps.size ≤ (ps.map (·.length)).sum + ps.length * y.length
  | [] => by simp [Str.join, Str.empty]
  | [p] => by
    show p.cps.size ≤ _
    simp [Str.length]
  | p :: q :: r => by
    have ih := join_le y (q :: r)
    rw [size_len] at ih ⊢
    rw [join_cons, List.length_append, List.length_append]
    have e1 : p.cps.toList.length = p.length := by simp [Str.length]
    have e2 : y.cps.toList.length = y.length := by simp [Str.length]
    rw [List.map_cons, List.sum_cons, List.length_cons, Nat.succ_mul]
    omega
theorem join_nil_le (y : Str) : ∀ ps : List Str, (Str.join "" ps).cps.size ≤ (Str.join y ps).cps.size
  | [] => Nat.le_refl _
  | [p] => Nat.le_refl _
  | p :: q :: r => by
    have ih := join_nil_le y (q :: r)
    rw [size_len, size_len (Str.join y _)] at ih ⊢
    rw [join_cons, join_cons]
    have : ("" : Str).cps.toList = [] := by decide +kernel
    rw [this]
    simp only [List.length_append, List.length_nil]
    omega
theorem replace_len (x : Str) : (Txt.replace x "\r\n" "").length ≤ x.length := by
  rw [replace_join x "" (by decide +kernel) (by decide +kernel)]
  have := join_nil_le "\r\n" (Txt.split x "\r\n")
  rw [StrLaws.join_split] at this
  exact this
theorem bits_small {a : Int} (h : a.natAbs < 1000) : Builtin.Int.intBits a ≤ 64 := PySem.intBits_le_iff.mpr (Nat.lt_trans h (by decide))
/- Fw40 -/
set_option autoImplicit false
section
variable {M : Model} {A : Around} {E : Value → Shared → Prop} {s : Shared} {env : Env}
theorem callWith_kw0 {pos : Pos} {id : String} {first : List Value} {kws : List Keyword} {Q : Value → Shared → Prop}
    (h : wpAny M A (evalAll ((backToKw pos (keywordEach kws env)).map (·.2))) (fun kvs s₂ => wpAny M A (call (.builtin id) first (((backToKw pos (keywordEach kws env)).filterMap (·.1)).zip kvs)) Q E s₂) E s)
    (hall : (backToKw pos (keywordEach kws env)).all (·.1.isSome) = true := by rfl)
    (hkw : (backToKw pos (keywordEach kws env)).any (·.1.isNone) = false := by rfl) :
    wpAny M A (callWith pos (.builtin id) first (backTo pos (starEach [] env)) (backToKw pos (keywordEach kws env))) Q E s := by
  refine callWith_builtin_kwB rfl hkw ?_
  unfold evalArgs
  show wpAny M A (spliced [] >>= _) _ E s
  refine wpAny_bind (wpAny_pure ?_)
  refine wpAny_bind (wpAny_pure ?_)
  refine wpAny_holding ?_
  rw [if_pos hall]
  refine wpAny_bind (wpAny_mono h (fun kvs s₂ h₂ => ?_) fun _ _ x => x)
  refine wpAny_bind (wpAny_pure (wpAny_pure ?_))
  rw [List.append_nil]
  exact h₂
end
theorem rnd_rooms (count : Nat) : ∀ i, (rndI count i).rooms.length ≤ i
  | 0 => Nat.le_refl _
  | i + 1 => by
    have ih := rnd_rooms count i
    unfold rndI turnOf
    split
    · omega
    · show (_ ++ [_]).length ≤ _
      rw [List.length_append]; simp; omega
/- Fw41 -/
set_option autoImplicit false
section
variable {c : Cx} {env : Env} {L : Addr} {m : Loc} {mu led : List (Addr × Obj)} {s : Shared} {A : Around} {E : Value → Shared → Prop} {Q : Value → Shared → Prop} {d : Nat}
/-- the first call of all: no frame of a caller -/
theorem first_call {f : Addr} {args : List Value} {fd : FuncData} {body : List Stmt} {binds : List (Str × Value)} (O : c.Ok) (hbase : s.heap = c.base) (hg : AllBare s.gens) (hos : s.os = c.os) (hA : AOk A d) (hd : d ≤ 480)
    (ho : c.K.lookup f = some { cls := .type "function", data := .func fd }) (hcode : codeIn c.K fd.code fd.qualname = true) (hbody : fd.body = .stmts body) (hbind : bindArgs fd ⟨args, []⟩ = pure binds) (hclo : fd.closure = [])
    (cells : Addr → List (Str × Addr)) (cm : Addr → List (Addr × Obj)) (hcs : ∀ n, cellsFrom n fd.scope.names [] = cells n) (hcm : ∀ n, cellsMu (cells n) (bindC (fun y => fd.scope.names.lookup y) binds fun _ => none) = cm n)
    (hkind : ∀ n, ∀ x ∈ binds, fd.scope.names.lookup x.1 = some .local ∨ (fd.scope.names.lookup x.1 = some .cell ∧ ((cellsFrom n fd.scope.names []).lookup x.1).isSome = true))
    (hnn : nodupB ((cellsFrom 0 fd.scope.names []).map (·.1)) = true)
    (l : Loc) (hnd : nodupB (l.map (·.1)) = true) (hl : LocOk (bindL (fun y => fd.scope.names.lookup y) binds (fun _ => none)) l)
    (hco : fd.scope.isCoroutine = false) (hgen : fd.scope.isGenerator = false) (hk : fd.scope.kind = .function)
    (h : ∀ L' s', At c L' l (cm (L' + 1)) [] s' → AOk (A.deeper (fenv fd L' f (cells (L' + 1)))) (d + 1) →
      wpAny c.M (A.deeper (fenv fd L' f (cells (L' + 1)))) (execs body (fenv fd L' f (cells (L' + 1)))) (fun fl s' => Q (retOf fl) s') (fun _ _ => False) s') :
    wpAny c.M A (call (.ref f) args) Q E s := by
  have hin : c.K.In s.heap := by rw [hbase]; exact O.top
  have hlim : s.heap.NoLimit := by rw [hbase]; exact O.lim
  refine wpAny_call (codeAny_call_function (hA.room hd) (hin f _ ho) rfl hco hgen hbody (codeRec_of hin hcode) ?_)
  rw [hbind, hclo]
  refine wpAny_pure (inE_new hk (hkind _) fun env he s' x => ?_)
  subst he
  refine ⟨hlim.keeps x.inc.keep, codeAny_func ?_⟩
  have hnames : ((cellsFrom (s.heap.objs.size + 1) fd.scope.names []).map (·.1)).Nodup := by rw [cellsFrom_names fd.scope.names _ 0 [] [] rfl]; exact nodup_of hnn
  obtain ⟨h₁, tk, es⟩ := x.inc.same
  have S' : At c s.heap.objs.size l [] [] s' := At.of_fr O (f := bindL (fun y => fd.scope.names.lookup y) binds (fun _ => none)) ⟨x.inc.ns, by rw [← hbase]; exact x.inc.keep, by rw [← hbase]; exact x.inc.fresh⟩ hnd hl (by rw [es]; exact hg) (by rw [es]; exact hos)
  have S'' := At.cells (cm := bindC (fun y => fd.scope.names.lookup y) binds fun _ => none) S' x.apart x.above (fun n a hm => x.cell n a (lookup_of_mem_nodup hnames hm)) (fun p hp => nomatch hp) (fun p hp => nomatch hp)
  have hh := h s.heap.objs.size s'
  rw [← hcm, ← hcs, ← List.append_nil (cellsMu _ _)] at hh
  exact wpAny_mono (hh S'' (hA.deeper _)) (fun fl s' q => q) (fun _ _ q => q.elim)
/-- what stood, stands: code tables may have grown -/
theorem At.oldK (S : At c L m mu led s) {h₀ : Heap} (e : c.base = h₀) : OldK h₀ s.heap := by
  subst e
  refine ⟨fun b o hb => ?_, fun b o hb => ?_⟩
  · by_cases q : b ∈ c.tabs.map (·.2.1)
    · obtain ⟨t, ht, rfl⟩ := List.mem_map.mp q
      have t0 := (S.ok.tab t ht).1
      obtain ⟨more, _, t1⟩ := S.tab t ht
      have := t0.2
      rw [hb] at this
      cases this
      exact .inr (.inl ⟨t0.isCodeTable, rfl, t.2.2, more, rfl, t1.2⟩)
    · exact .inl (S.keep b o hb q)
  · by_cases q : b ∈ c.tabs.map (·.2.1)
    · obtain ⟨t, ht, rfl⟩ := List.mem_map.mp q
      obtain ⟨more, _, t1⟩ := S.tab t ht
      exact ⟨_, t1.2⟩
    · exact ⟨o, S.keep b o hb q⟩
/-- [..] * n -/
theorem r_mulL0 {l : Addr} {vs : List Value} {x : Int} {k : Nat} {u : Tok} (S : At c L m mu led s) (hl : Kn c mu led l (W.listOf vs.toArray k)) (hsz : vs.length * x.toNat ≤ 256) (hlo : -(2 ^ 63 : Int) ≤ x) (hhi : x < 2 ^ 63)
    (h : ∀ D s', At c L m ((D, W.listOf (List.replicate x.toNat vs).flatten.toArray 0) :: mu) led s' → Q (.ref D) s') : wpAny c.M A (binaryOp .Mult (.ref l) (.int x u)) Q E s := by
  obtain ⟨⟨cls, dd, data, sl⟩, ho, hcl, k, hdd⟩ := S.knIsList hl
  simp only at hcl hdd
  subst hcl hdd
  have hsz' : vs.toArray.size * x.toNat ≤ 256 := by simpa using hsz
  refine wpAny_binaryOp_repeat_ref (T := "list") (U := "int") (by decide) ⟨_, ho, rfl⟩ (fun s' => typeIs_int s' x u) noFill_list_mul F.fills_int_mul F.slot_int_rmul repeat_list F.slot_int_index.lookup
    (call_meets F.slot_int_rmul (typeIs_int s x u) F.entry_int_rmul (F.args_int_rmul_2 _ _) (lm_int_rmul_list_any x u l vs.toArray k dd sl)
      ⟨ho, rfl, ⟨_, ho, rfl⟩, call_meets F.slot_list_mul ⟨_, ho, rfl⟩ F.entry_list_mul (F.args_list_mul_2 _ _)
        (lm_list_mul_any l vs.toArray k dd sl x u (by simp [Builtin.List.listFitsIndex]; omega) (by omega) (by simp [Builtin.List.listTooLong, sizeLine]; omega))
        ⟨ho, ?_⟩⟩)
  have S1 := S.pushM (o := { cls := Value.type "list", data := Data.seq (List.foldl (fun x1 x2 => x1 ++ x2) #[] (List.replicate (if vs.toArray.isEmpty = true then 0 else x.toNat) vs.toArray)) }) rfl
  rw [listMul_foldl_if] at S1
  rw [listMul_foldl_if]
  exact h _ _ S1
theorem r_mulL {l : Addr} {vs : List Value} {n k : Nat} {u : Tok} (S : At c L m mu led s) (hl : Kn c mu led l (W.listOf vs.toArray k)) (hsz : vs.length * n ≤ 256) (hn : n ≤ 1000)
    (h : ∀ D s', At c L m ((D, W.listOf (List.replicate n vs).flatten.toArray 0) :: mu) led s' → Q (.ref D) s') : wpAny c.M A (binaryOp .Mult (.ref l) (.int (n : Int) u)) Q E s :=
  r_mulL0 S hl hsz (by omega) (by omega) h
theorem rep_one (v : Value) : ∀ n, (List.replicate n [v]).flatten = List.replicate n v
  | 0 => rfl
  | n + 1 => by rw [List.replicate_succ, List.flatten_cons, rep_one v n]; rfl
theorem rs_rep {x : Str} {t : Tok} : ∀ n, RS (List.replicate n (.str x t)) (List.replicate n x)
  | 0 => .nil
  | n + 1 => .cons ⟨_, rfl⟩ (rs_rep n)
/-- two pairs of a list of strs and a list of ints -/
theorem r_eqT {a b : Addr} {p q p' q' : Addr} {vs ws vs' ws' : List Value} {n k n' k' : Nat} {xs xs' : List Str} {ys ys' : List Int} (S : At c L m mu led s)
    (ha : (a, tupO [.ref p, .ref q]) ∈ led) (hb : (b, tupO [.ref p', .ref q']) ∈ led) (hp : Kn c mu led p (W.listOf vs.toArray n)) (hq : Kn c mu led q (W.listOf ws.toArray k)) (hp' : Kn c mu led p' (W.listOf vs'.toArray n')) (hq' : Kn c mu led q' (W.listOf ws'.toArray k'))
    (rp : RS vs xs) (rq : RI ws ys) (rp' : RS vs' xs') (rq' : RI ws' ys') (hx : ∀ x ∈ xs, PyData.strOk x = true) (hx' : ∀ x ∈ xs', PyData.strOk x = true) (hA : AOk A d) (hd : d ≤ 480)
    (h : Q (.bool (xs == xs' && ys == ys')) s) : wpAny c.M A (compareOp .Eq (.ref a) (.ref b)) Q E s := by
  have sh : ∀ (xs : List Str) (ys : List Int), (∀ x ∈ xs, PyData.strOk x = true) → SeqAt.shaped (.tuple [.list (xs.map .str), .list (ys.map .int)]) = true := by
    intro xs ys hx
    unfold SeqAt.shaped
    simp only [PyData.canLay0, PyData.canLayAll0, PyData.depth, PyData.depthAll, lay_strs hx, lay_ints, depth_strs, depth_ints]
    decide
  refine eq_dataH (.tuple (S.kn (kn_led ha)) rfl rfl (.cons (S.rdS hp rp) (.cons (S.rdI hq rq) .nil))) (.tuple (S.kn (kn_led hb)) rfl rfl (.cons (S.rdS hp' rp') (.cons (S.rdI hq' rq') .nil))) (sh _ _ hx) (sh _ _ hx') (hA.cmp hd) ?_
  rw [show PyData.eqv (.tuple [.list (xs.map .str), .list (ys.map .int)]) (.tuple [.list (xs'.map .str), .list (ys'.map .int)]) = (xs == xs' && ys == ys') from by simp [PyData.eqv, PyData.eqvAll, eqv_strs, eqv_ints]]
  exact h
end
/- FmA02 -/
set_option autoImplicit false
noncomputable abbrev KF (w : World) : Frag := hd.heap_1 w.params
noncomputable abbrev cx (w : World) (base : Heap) (os : OsState) (mb : Str → Option Value) : Cx :=
  { prog := PySem.Challenge.rw_ph0135_02.prog, w := w, K := KF w, base := base, os := os, mb := mb, tabs := [(178, 174, #[]), (185, 181, #[])] }
noncomputable def fdA (w : World) (a : Addr) : FuncData := match (KF w).lookup a with | some ⟨_, _, .func fd, _⟩ => fd | _ => default
section
variable {w : World}
theorem ac_ga : findIn (KF w) (.ref 212) "__getattribute__" = some (some (.builtin "list.__getattribute__")) := by kernel_rfl
theorem ac_ng : findIn (KF w) (.ref 212) "__getattr__" = some none := by kernel_rfl
theorem ac_mro : mroIn (KF w) 212 (.type "list") = some true := by kernel_rfl
theorem ac_iter : findIn (KF w) (.ref 212) "__iter__" = some (some (.builtin "list.__iter__")) := by kernel_rfl
theorem ac_init {t u : Tok} {k : Int} : findObj (KF w) 212 (some (accD w t k u)) "_initial_size" = some (.value (.int k u)) := by kernel_rfl
theorem ac_append : findIn (KF w) (.ref 212) "append" = some (some (.builtin "list.append")) := by kernel_rfl
theorem ac_push : findIn (KF w) (.ref 212) "push" = some (some (.ref 156)) := by kernel_rfl
theorem ac_pop : findIn (KF w) (.ref 212) "pop" = some (some (.ref 172)) := by kernel_rfl
theorem ac_popf : findIn (KF w) (.ref 212) "pop_from" = some (some (.ref 164)) := by kernel_rfl
theorem ac_len : findIn (KF w) (.ref 212) "__len__" = some (some (.ref 179)) := by kernel_rfl
theorem ac_str : findIn (KF w) (.ref 212) "__str__" = some (some (.ref 186)) := by kernel_rfl
theorem ac_bool : findIn (KF w) (.ref 212) "__bool__" = some none := by kernel_rfl
theorem ac_reset : findIn (KF w) (.ref 212) "reset" = some (some (.ref 194)) := by kernel_rfl
theorem ac_onlyws : findIn (KF w) (.ref 212) "is_onlyws" = some (some (.ref 201)) := by kernel_rfl
theorem ac_pc : findIn (KF w) (.ref 212) "part_count" = some (some (.ref 209)) := by kernel_rfl
theorem ac_ty {a : Addr} (h : typeIn (KF w) (.ref a) = some (.type "function")) : typeIn (KF w) (.ref a) = some (.type "function") := h
theorem can_lga : (Manifest.canonical "list.__getattribute__" != "object.__getattribute__") = false := by kernel_rfl
end
local macro_rules | `(tactic| walk_at "loc") => `(tactic| (repeat' (first | exact trivial | refine ⟨by kernel_rfl, ?_⟩)))
local macro_rules | `(tactic| walk_at "mem") => `(tactic| with_reducible (first | exact List.mem_cons_self | (refine List.mem_cons_of_mem _ ?_; walk_at "mem") | assumption))
local macro_rules | `(tactic| walk_at "sides") => `(tactic| ((case a1 => omega); (case a2 => kernel_rfl); (case a3 => kernel_rfl); (case a4 => kernel_rfl); (case a5 => kernel_rfl); (case a6 => kernel_rfl); (case a7 => kernel_rfl); (case a8 => walk_at "loc"); (case a9 => kernel_rfl); (case a10 => kernel_rfl); (case a11 => kernel_rfl)))
section
variable {w : World} {base : Heap} {os : OsState} {mb : Str → Option Value} {L : Addr} {m : Loc} {mu led : List (Addr × Obj)} {s : Shared} {A : Around} {E : Value → Shared → Prop} {Q : Value → Shared → Prop} {d : Nat}
set_option maxHeartbeats 2000000
theorem push_code {R : Result → Shared → Prop} {acc dA : Addr} {vs : List Value} {n : Nat} {x y : Value} {t u : Tok} {k : Int} {mu' : Addr → List (Addr × Obj)} (S : At (cx w base os mb) L m mu led s) (hm : ∀ a, SetM acc (accO 212 dA vs n) (accO 212 dA (vs ++ [.ref a]) (n + 1)) mu (mu' a)) (hdA : (dA, accD w t k u) ∈ mu) (hA : AOk A d) (hd : d ≤ 470) (hsz : vs.length ≤ 100000)
    (h : ∀ a s', At (cx w base os mb) L m (mu' a) ((a, tupO [x, y]) :: led) s' → R (.ok (.ret .none)) s') :
    codeAny (cx w base os mb).M A (.call (.ref 156) ⟨[.ref acc, x, y], []⟩) R s := by
  refine r_def0 S hA ?a1 (f := 156) (fd := fdA w 156) ?a2 ?a3 (by rfl) (BindsTo.of_eq (binds := [("self", .ref acc), ("fws", x), ("string", y)]) ?a4) ?a5 ?a6
    [("self", some (.ref acc)), ("fws", some x), ("string", some y)] ?a7 ?a8 ?a9 ?a10 ?a11 ?_
  walk_at "sides"
  intro L' oL s1 S1 hb hA1
  refine wpAny_execs_cons ?_
  refine wpAny_Expr ?_ (by kernel_rfl) (by kernel_rfl)
  refine MethodCall_ ?_
  refine r_local S1 (by walk_at "mem") ?_ (by kernel_rfl) (by kernel_rfl) (by kernel_rfl)
  refine r_meth S1 (t := .ref 212) (f := .builtin "list.append") (tf := "method_descriptor") (ga := "list.__getattribute__") (looks_ref (S1.muGet (hm 0).mem) rfl) ac_ga can_lga ac_ng ac_append (by kernel_rfl) (by kernel_rfl)
    ⟨_, S1.muGet (hm 0).mem, .inr ⟨_, _, rfl, S1.muGet hdA, by kernel_rfl⟩⟩ ?_
  refine callWith_method1 ?_
  refine args_cons ?_
  refine Tuple_ ?_
  refine args_cons ?_
  refine r_local S1 (by walk_at "mem") ?_ (by kernel_rfl) (by kernel_rfl) (by kernel_rfl)
  refine args_cons ?_
  refine r_local S1 (by walk_at "mem") ?_ (by kernel_rfl) (by kernel_rfl) (by kernel_rfl)
  refine args_nil ?_
  refine r_newTuple S1 ?_ (by kernel_rfl)
  intro a s2 S2
  refine args_nil ?_
  refine r_appendA S2 (hm a) ac_mro (by omega) ?_
  intro s3 S3
  refine wpAny_execs_nil ?_
  refine h a s3 (hb.ret S S3 (by walk_at "mem") (mem_all_cons ⟨by walk_at "mem", .inr rfl⟩ fun p hp => ⟨.tail _ (.tail _ hp), .inl hp⟩))
theorem push_spec {acc dA : Addr} {vs : List Value} {n : Nat} {x y : Value} {t u : Tok} {k : Int} {mu' : Addr → List (Addr × Obj)} (S : At (cx w base os mb) L m mu led s) (hm : ∀ a, SetM acc (accO 212 dA vs n) (accO 212 dA (vs ++ [.ref a]) (n + 1)) mu (mu' a)) (hdA : (dA, accD w t k u) ∈ mu) (hA : AOk A d) (hd : d ≤ 470) (hsz : vs.length ≤ 100000)
    (h : ∀ a s', At (cx w base os mb) L m (mu' a) ((a, tupO [x, y]) :: led) s' → Q .none s') :
    wpAny (cx w base os mb).M A (call (.ref 156) [.ref acc, x, y]) Q E s :=
  wpAny_call (push_code S hm hdA hA hd hsz h)
/-- how much a part may weigh -/
def Small (ps : List Part) : Prop := ∀ q ∈ ps, q.f.length ≤ 100000 ∧ q.p.length ≤ 100000
theorem len_spec {acc dA : Addr} {ps : List Part} {n : Nat} {k : Int} {t u : Tok} (S : At (cx w base os mb) L m mu led s) (hacc : (acc, accO 212 dA (refsOf ps) n) ∈ mu) (hdA : (dA, accD w t k u) ∈ mu) (hps : PartsIn led ps) (hsz : Small ps) (hA : AOk A d) (hd : d ≤ 470)
    (h : ∀ t' s', At (cx w base os mb) L m mu led s' → Q (.int (k + lenOf ps) t') s') :
    wpAny (cx w base os mb).M A (call (.ref 179) [.ref acc]) Q E s := by
  refine r_def S hA ?a1 (f := 179) (fd := fdA w 179) ?a2 ?a3 (by rfl) (BindsTo.of_eq (binds := [("self", .ref acc)]) ?a4) ?a5 ?a6 [("self", some (.ref acc))] ?a7 ?a8 ?a9 ?a10 ?a11 ?_
  walk_at "sides"
  intro L' oL s1 S1 hb hA1
  have hacc1 := S1.muGet hacc
  have hne : acc ∉ (cx w base os mb).tabs.map (·.2.1) := fun q => Nat.lt_irrefl _ (Nat.lt_of_lt_of_le (S.ok.tabLt q) (S.hmu _ hacc).2.2)
  refine wpAny_execs_cons ?_
  refine wpAny_Return_some ?_
  refine Call_ ?_
  refine r_bi S1 (x := "sum") (v := .builtin "sum") (by kernel_rfl) (by kernel_rfl) (by decide) ?_ (by kernel_rfl) (by kernel_rfl) (by kernel_rfl) (by kernel_rfl) (by kernel_rfl)
  refine callWith_method1 ?_
  refine args_cons ?_
  refine r_genexp (t := (178, 174, #[])) (cl := []) (ps := ps) S1 hA1.handled (hA1.room (by omega)) (List.mem_cons_self) (by kernel_rfl) (by kernel_rfl) (by kernel_rfl) hacc1 rfl rfl ac_iter (looks_isI S1 (looks_ref hacc1 rfl) ac_mro)
    (fun q hq => .tail _ (hps q hq)) List.mem_cons_self (by kernel_rfl) (by kernel_rfl) (by kernel_rfl) hne (by kernel_rfl) (by kernel_rfl) (by decide +kernel) (by kernel_rfl) (by kernel_rfl) (by kernel_rfl) (by decide +kernel) (by kernel_rfl) (fun x => rfl)
    (fun i y => ∃ tt, y = .int (((ps.getD i Part.dflt).f.length + (ps.getD i Part.dflt).p.length : Nat) : Int) tt) ?_ ?_
  · intro C code A' E' i q s₂ m₂ hh hq hns hxa hxb hK hB
    have hl := hsz q (List.mem_of_getElem? hq)
    refine wpAny_BinOp ?_
    refine Call_ ?_
    refine x_bi S.ok hK hB (x := "len") (v := .builtin "len") (by kernel_rfl) (by kernel_rfl) (by decide) ?_ (by kernel_rfl) (by kernel_rfl) (by kernel_rfl) (by kernel_rfl) (by kernel_rfl)
    refine callWith_method1 ?_
    refine args_cons ?_
    refine x_loc hns hxa ?_ (by kernel_rfl) (by kernel_rfl) (by kernel_rfl)
    refine args_nil ?_
    refine len_str (by omega) ?_
    refine Call_ ?_
    refine x_bi S.ok hK hB (x := "len") (v := .builtin "len") (by kernel_rfl) (by kernel_rfl) (by decide) ?_ (by kernel_rfl) (by kernel_rfl) (by kernel_rfl) (by kernel_rfl) (by kernel_rfl)
    refine callWith_method1 ?_
    refine args_cons ?_
    refine x_loc hns hxb ?_ (by kernel_rfl) (by kernel_rfl) (by kernel_rfl)
    refine args_nil ?_
    refine len_str (by omega) ?_
    refine add_int ?_
    have e : ps.getD i Part.dflt = q := by rw [List.getD_eq_getElem?_getD, hq]; rfl
    refine ⟨?_, ⟨_, _, rfl, fun _ _ e => e⟩⟩
    rw [e]
    exact ⟨_, rfl⟩
  · intro a C I h₅ tk gs St fp hgs hI hC hk ht W hst hty hfp hafp
    have S5 : At (cx w base os mb) L' [("self", some (.ref acc))] mu ((L, oL) :: led) { s1 with gens := s1.gens.push gs, toks := tk, heap := h₅ } := S1.ext' hk ht (S1.gens.push hgs) rfl
    refine args_cons ?_
    refine Attribute_name ?_
    refine r_local S5 (by walk_at "mem") ?_ (by kernel_rfl) (by kernel_rfl) (by kernel_rfl)
    refine r_attrA0 S5.inK (S5.muGet hacc) rfl (S5.muGet hdA) ac_ga ac_ng ac_mro ac_init (by kernel_rfl) ?_
    refine args_nil ?_
    refine call_sum2 W.in4_1 (fun i => (((ps.getD i Part.dflt).f.length + (ps.getD i Part.dflt).p.length : Nat) : Int)) (fun i v q => q.2) (W.frame 0 _ h₅ (tk + 1) hst (Nat.le_succ _) fun _ _ _ e => e) hfp fun s' t' hm => ?_
    rw [preK_parts]
    have S6 : At (cx w base os mb) L' [("self", some (.ref acc))] mu ((L, oL) :: led) s' := S1.afterGen hgs hI hC hk ht hm
    exact h _ _ (hb.ret S S6 (by walk_at "mem") fun p hp => ⟨.tail _ hp, .inl hp⟩)
theorem str_spec {acc dA : Addr} {ps : List Part} {n : Nat} (S : At (cx w base os mb) L m mu led s) (hacc : (acc, accO 212 dA (refsOf ps) n) ∈ mu) (hps : PartsIn led ps) (hsz : Small ps) (hlen : lenOf ps ≤ 1000000) (hcnt : ps.length ≤ 100000) (hA : AOk A d) (hd : d ≤ 470)
    (h : ∀ t' s', At (cx w base os mb) L m mu led s' → Q (.str (textOf ps) t') s') :
    wpAny (cx w base os mb).M A (call (.ref 186) [.ref acc]) Q E s := by
  refine r_def S hA ?a1 (f := 186) (fd := fdA w 186) ?a2 ?a3 (by rfl) (BindsTo.of_eq (binds := [("self", .ref acc)]) ?a4) ?a5 ?a6 [("self", some (.ref acc))] ?a7 ?a8 ?a9 ?a10 ?a11 ?_
  walk_at "sides"
  intro L' oL s1 S1 hb hA1
  have hacc1 := S1.muGet hacc
  have hne : acc ∉ (cx w base os mb).tabs.map (·.2.1) := fun q => Nat.lt_irrefl _ (Nat.lt_of_lt_of_le (S.ok.tabLt q) (S.hmu _ hacc).2.2)
  refine wpAny_execs_cons ?_
  refine wpAny_Return_some ?_
  refine MethodCall_ ?_
  refine r_glob S1 (x := "EMPTYSTRING") (v := .str "" 362) (by kernel_rfl) ?_ (by kernel_rfl) (by kernel_rfl) (by kernel_rfl) (by kernel_rfl)
  refine GM.join ?_
  refine callWith_method1 ?_
  refine args_cons ?_
  refine r_genexp (t := (185, 181, #[])) (cl := []) (ps := ps) S1 hA1.handled (hA1.room (by omega)) (List.mem_cons_self) (by kernel_rfl) (by kernel_rfl) (by kernel_rfl) hacc1 rfl rfl ac_iter (looks_isI S1 (looks_ref hacc1 rfl) ac_mro)
    (fun q hq => .tail _ (hps q hq)) (List.mem_cons_of_mem _ List.mem_cons_self) (by kernel_rfl) (by kernel_rfl) (by kernel_rfl) hne (by kernel_rfl) (by kernel_rfl) (by decide +kernel) (by kernel_rfl) (by kernel_rfl) (by kernel_rfl) (by decide +kernel) (by kernel_rfl) (fun x => rfl)
    (fun i y => ∃ tt, y = .str (partText (ps.getD i Part.dflt)) tt) ?_ ?_
  · intro C code A' E' i q s₂ m₂ hh hq hns hxa hxb hK hB
    have hl := hsz q (List.mem_of_getElem? hq)
    have e : ps.getD i Part.dflt = q := by rw [List.getD_eq_getElem?_getD, hq]; rfl
    refine MethodCall_ ?_
    refine x_glob (c := cx w base os mb) hK (x := "EMPTYSTRING") (v := .str "" 362) (by kernel_rfl) ?_ (by kernel_rfl) (by kernel_rfl) (by kernel_rfl) (by kernel_rfl)
    refine GM.join ?_
    refine callWith_method1 ?_
    refine args_cons ?_
    refine Tuple_ ?_
    refine args_cons ?_
    refine x_loc hns hxa ?_ (by kernel_rfl) (by kernel_rfl) (by kernel_rfl)
    refine args_cons ?_
    refine x_loc hns hxb ?_ (by kernel_rfl) (by kernel_rfl) (by kernel_rfl)
    refine args_nil ?_
    refine wpAny_newObj_type ?_ (by show 2 ≤ sizeLine; decide)
    refine args_nil ?_
    refine join_tuple (items := #[.str q.f q.t, .str q.p q.u]) (ys := [q.f, q.p]) ⟨_, Heap.get?_push_size _ rfl, rfl, _, rfl⟩ (.cons _ _ (.cons _ _ .nil)) ?_ fun t' k => ?_
    · simp only [List.map_cons, List.map_nil, List.sum_cons, List.sum_nil, List.length_cons, List.length_nil]
      have : ("" : Str).length = 0 := by decide +kernel
      rw [this]; omega
    · rw [e, join2_part]
      exact ⟨⟨_, rfl⟩, ⟨_, _, rfl, fun _ _ e => Heap.get?_push_of_some _ e⟩⟩
  · intro a C I h₅ tk gs St fp hgs hI hC hk ht W hst hty hfp hafp
    refine args_nil ?_
    refine SC.joinGen W.in4_2 hty hst hfp hafp (fun i v q => ⟨_, q.2⟩) (fun s' l hm hi => ?_) (le_sz (by omega))
    rw [texts_of_items hi]
    refine ⟨joinOk_of ?_, fun t' k => ?_⟩
    · rw [lenOf_texts, List.length_map]
      have : ("" : Str).length = 0 := by decide +kernel
      rw [this]; omega
    · have S6 : At (cx w base os mb) L' [("self", some (.ref acc))] mu ((L, oL) :: led) s' := S1.afterGen hgs hI hC hk ht hm
      have e : Txt.join "" (ps.map partText) = textOf ps := StrLaws.glued_eq_join _ _
      rw [e]
      refine h _ _ (hb.ret S (S6.toks k) (by walk_at "mem") fun p hp => ⟨.tail _ hp, .inl hp⟩)
end
/- FmB02 -/
set_option autoImplicit false
section
variable {w : World}
noncomputable def accCd (w : World) : ClassData := (clsIn (KF w) 212).getD default
theorem ac_cd : clsIn (KF w) 212 = some (accCd w) := by kernel_rfl
theorem ac_sub : mroIn (KF w) 212 (.ref 212) = some true := by kernel_rfl
theorem ac_mod : mroIn (KF w) 212 (.type "module") = some false := by kernel_rfl
theorem ac_meta : typeIn (KF w) (.ref 212) = some (.type "type") := by kernel_rfl
theorem ac_slen : ks_superIn (KF w) 212 212 "__len__" = some (some (.builtin "list.__len__")) := by kernel_rfl
theorem ac_spop : ks_superIn (KF w) 212 212 "pop" = some (some (.builtin "list.pop")) := by kernel_rfl
theorem ac_sinit : ks_superIn (KF w) 212 212 "__init__" = some (some (.builtin "list.__init__")) := by kernel_rfl
theorem g_super : nsIn (KF w) mainGlobals "super" = some none := by kernel_rfl
theorem g_third : nsIn (KF w) cStatics "thirdparty.any" = some none := by kernel_rfl
theorem g_boot : bootBuiltins "super" = some (.type "super") := by kernel_rfl
theorem g_cell : (KF w).lookup 136 = some (cellO (some (.ref 212))) := by kernel_rfl
theorem ac_ck {x : Addr} : Bind.checkArgs "list.pop" { sgPop with full := s!"{(accCd w).qualname.toString}.{Bind.lastOf "list.pop"}" } ⟨[.ref x], []⟩ = pure () := by kernel_rfl
end
section
variable {w : World} {base : Heap} {os : OsState} {mb : Str → Option Value} {L : Addr} {m : Loc} {mu led : List (Addr × Obj)} {s : Shared} {A : Around} {E : Value → Shared → Prop} {Q : Value → Shared → Prop} {d : Nat}
set_option maxHeartbeats 2000000
theorem ac_ne {acc a : Addr} {o : Obj} (S : At (cx w base os mb) L m mu led s) (h : (acc, o) ∈ mu) (ha : ((KF w).lookup a).isSome = true) : acc ≠ a := by
  rintro rfl
  obtain ⟨o', e⟩ := Option.isSome_iff_exists.mp ha
  exact Nat.lt_irrefl _ (Nat.lt_of_lt_of_le (Heap.lt_size (S.ok.top _ _ e)) (S.hmu _ h).2.2)
theorem ac_lk : ((KF w).lookup 212).isSome = true := by kernel_rfl
theorem pc_spec {acc dA : Addr} {vs : List Value} {n : Nat} (S : At (cx w base os mb) L m mu led s) (hacc : (acc, accO 212 dA vs n) ∈ mu) (hA : AOk A d) (hd : d ≤ 470)
    (h : ∀ t' s', At (cx w base os mb) L m mu led s' → Q (.int vs.length t') s') :
    wpAny (cx w base os mb).M A (call (.ref 209) [.ref acc]) Q E s := by
  refine r_defAt S hA ?a1 (f := 209) (fd := fdA w 209) ?a2 ?a3 (by rfl) (BindsTo.of_eq (binds := [("self", .ref acc)]) ?a4) ?a5 ?a6 [("self", some (.ref acc))] ?a7 ?a8 ?a9 ?a10 ?a11 ?_
  walk_at "sides"
  intro L' oL s1 S1 hb hA1
  refine ks_wpAt_execs_cons ?_
  refine ks_wpAt_Return_some ?_
  refine ks_wpAt_MethodCall ?_
  refine r_super (f := 209) (cc := 208) (cl := 136) (C := 212) (D := 212) (fd := fdA w 209) (ar := ((fdA w 209).params.args.headD default)) S1 hacc (by exact List.mem_cons_self) (by kernel_rfl) (by kernel_rfl) (by kernel_rfl) (by kernel_rfl) (by rfl) (by rfl) (by rfl) (by kernel_rfl) (by kernel_rfl) g_cell ac_cd ac_sub g_super (by kernel_rfl) (by kernel_rfl) (by kernel_rfl) (by kernel_rfl) (by kernel_rfl) (by kernel_rfl) (by kernel_rfl) (by kernel_rfl) g_boot ?_
  intro so s2 S2
  refine r_superCall S2 (.head _) hacc g_third ac_cd ac_slen (ac_ne S hacc ac_lk) ty_llen slot_wd entry_wd (args_wd _ _ _) (by kernel_rfl) ac_mro (fun s A' P E' hI q => run_wd own_len hI q) (.inl rfl) (fun s' _ A' P E' q => wpAny_of_eq (ck_llen _) q) (Code.quiet_builtin _ (by decide +kernel)) en_llen ?_
  intro s3 S3
  refine b_len (S3.muGet hacc) rfl ⟨_, rfl, ?_⟩
  exact h _ _ (hb.ret S (S3.toks _) (by walk_at "mem") fun p hp => ⟨.tail _ (.tail _ hp), .inl hp⟩)
theorem r_am {acc dA f : Addr} {vs : List Value} {n : Nat} {t u : Tok} {k : Int} {name : Str} {pl : Sem Bool} {Q : Value × List Value → Shared → Prop} (S : At (cx w base os mb) L m mu led s) (hacc : (acc, accO 212 dA vs n) ∈ mu) (hdA : (dA, accD w t k u) ∈ mu)
    (hf : findIn (KF w) (.ref 212) name = some (some (.ref f))) (ht : typeIn (KF w) (.ref f) = some (.type "function")) (hno : lookIn name (accD w t k u) = some none) (h : Q (.ref f, [.ref acc]) s) : wpAny (cx w base os mb).M A (getMethod (.ref acc) name pl) Q E s :=
  r_meth S (t := .ref 212) (f := .ref f) (tf := "function") (ga := "list.__getattribute__") (looks_ref (S.muGet hacc) rfl) ac_ga can_lga ac_ng hf ht (by decide) ⟨_, S.muGet hacc, .inr ⟨_, _, rfl, S.muGet hdA, hno⟩⟩ h
theorem pop_last {acc dA : Addr} {vs : List Value} {v : Value} {n : Nat} {t u : Tok} {k : Int} {mu' : List (Addr × Obj)} (S : At (cx w base os mb) L m mu led s) (hm : SetM acc (accO 212 dA (vs ++ [v]) n) (accO 212 dA vs (n + 1)) mu mu') (hdA : (dA, accD w t k u) ∈ mu) (hsz : vs.length ≤ 100000) (hA : AOk A d) (hd : d ≤ 460)
    (h : ∀ s', At (cx w base os mb) L m mu' led s' → Q v s') :
    wpAny (cx w base os mb).M A (call (.ref 172) [.ref acc]) Q E s := by
  have hacc := hm.mem
  refine r_defAt S hA ?a1 (f := 172) (fd := fdA w 172) ?a2 ?a3 (by rfl) (BindsTo.of_eq (binds := [("self", .ref acc)]) ?a4) ?a5 ?a6 [("self", some (.ref acc))] ?a7 ?a8 ?a9 ?a10 ?a11 ?_
  walk_at "sides"
  intro L' oL s1 S1 hb hA1
  refine ks_wpAt_execs_cons ?_
  refine ks_wpAt_If ?_
  refine wpAt_of_wpAny ?_
  refine wpAny_isTrue_Compare1 ?_
  refine MethodCall_ ?_
  refine r_local S1 (by walk_at "mem") ?_ (by kernel_rfl) (by kernel_rfl) (by kernel_rfl)
  refine r_am S1 hacc hdA ac_pc (by kernel_rfl) (by kernel_rfl) ?_
  refine callWith_K0 S1.inK (by kernel_rfl) ?_
  refine pc_spec S1 hacc hA1 (by omega) ?_
  intro t1 s2 S2
  refine r_int S2 ?_
  intro t2 s3 S3
  refine eq_int ?_
  rw [show (((vs ++ [v]).length : Int) == 0) = false by simp; omega]
  refine wpAny_truthy_bool ?_
  refine wpAt_of_wpAny (wpAny_execs_nil ?_)
  refine ks_wpAt_execs_cons ?_
  refine ks_wpAt_Return_some ?_
  refine ks_wpAt_MethodCall ?_
  refine r_super (f := 172) (cc := 171) (cl := 136) (C := 212) (D := 212) (fd := fdA w 172) (ar := ((fdA w 172).params.args.headD default)) S3 hacc (by exact List.mem_cons_self) (by kernel_rfl) (by kernel_rfl) (by kernel_rfl) (by kernel_rfl) (by rfl) (by rfl) (by rfl) (by kernel_rfl) (by kernel_rfl) g_cell ac_cd ac_sub g_super (by kernel_rfl) (by kernel_rfl) (by kernel_rfl) (by kernel_rfl) (by kernel_rfl) (by kernel_rfl) (by kernel_rfl) (by kernel_rfl) g_boot ?_
  intro so s4 S4
  refine r_superCall S4 (.head _) hacc g_third ac_cd ac_spop (ac_ne S hacc ac_lk) ty_lpop slot_md entry_md (args_md _ _ _) (by kernel_rfl) ac_mro (fun s A' P E' hI q => run_md own_pop told_lpop hI q) (.inr rfl) (fun s' S' A' P E' q => ck_lpop S'.inK (S'.muGet hacc) ac_mod ac_cd ac_meta ac_ck q) (Code.quiet_builtin _ (by decide +kernel)) en_lpop ?_
  intro s5 S5
  refine b_pop S5 hm (by omega) ?_
  intro s6 S6
  exact ⟨_, rfl, h _ (hb.ret S S6 (by walk_at "mem") fun p hp => ⟨.tail _ (.tail _ hp), .inl hp⟩)⟩
end
/- FmC02 -/
set_option autoImplicit false
local macro_rules | `(tactic| walk_at "set") => `(tactic| with_reducible (first | exact SetAt.head | (refine SetAt.tail ?_; walk_at "set")))
section
variable {w : World} {base : Heap} {os : OsState} {mb : Str → Option Value} {L : Addr} {m : Loc} {mu led : List (Addr × Obj)} {s : Shared} {A : Around} {E : Value → Shared → Prop} {Q : Value → Shared → Prop} {d : Nat}
set_option maxHeartbeats 2000000
theorem ac_subok : SubOk (cx w base os mb) 212 where
  gi := by kernel_rfl
  si := by kernel_rfl
  mro := ac_mro
  noseq := by kernel_rfl
theorem popf_spec {acc dA : Addr} {vs : List Value} {n k : Nat} {ti : Tok} {mu' : Nat → List (Addr × Obj)} (S : At (cx w base os mb) L m mu led s) (hm : ∀ n', SetM acc (accO 212 dA vs n) (accO 212 dA (vs.take k) n') mu (mu' n')) (hk : k ≤ vs.length) (hsz : vs.length ≤ 100000) (hA : AOk A d) (hd : d ≤ 460)
    (h : ∀ b n' s', At (cx w base os mb) L m ((b, W.listOf (vs.drop k).toArray 0) :: mu' n') led s' → Q (.ref b) s') :
    wpAny (cx w base os mb).M A (call (.ref 164) [.ref acc, .int k ti]) Q E s := by
  have hacc := (hm 0).mem
  refine r_def S hA ?a1 (f := 164) (fd := fdA w 164) ?a2 ?a3 (by rfl) (BindsTo.of_defaults (T := 157) (binds := [("self", .ref acc), ("i", .int k ti)]) ?a4 (S.top (a := 157) (by rfl)) (by rfl) (by rfl) (by kernel_rfl)) ?a5 ?a6 [("self", some (.ref acc)), ("i", some (.int k ti)), ("popped", none)] ?a7 ?a8 ?a9 ?a10 ?a11 ?_
  walk_at "sides"
  intro L' oL s1 S1 hb hA1
  refine wpAny_execs_cons ?_
  refine wpAny_Assign_Name ?_
  refine Subscript_ ?_
  refine r_local S1 (by walk_at "mem") ?_ (by kernel_rfl) (by kernel_rfl) (by kernel_rfl)
  refine r_Slice ?_
  refine r_local S1 (by walk_at "mem") ?_ (by kernel_rfl) (by kernel_rfl) (by kernel_rfl)
  refine wpAny_pure ?_
  refine ⟨_, _, _, _, S1, fun q s2 S2 => ?_⟩
  refine LL.tail S2.inK (LL.sub S2 ac_subok (S2.muGet hacc) rfl) (by with_unfolding_all rfl) ?_
  refine r_slice S2 (LL.sub S2 ac_subok (S2.muGet hacc) rfl) (S2.muGet hacc) rfl (.head _) (.int _ _) .none (by omega) ?_
  intro b s3 S3
  rw [slicePick_from _ _ hk] at S3
  refine r_store S3 (.tail (.tail .head)) ?_ (by kernel_rfl) (by kernel_rfl)
  intro s4 S4
  refine wpAny_execs_cons ?_
  refine wpAny_Assign_Subscript ?_
  refine List_ ?_
  refine args_nil ?_
  refine r_newList S4 ?_ (by kernel_rfl)
  intro e s5 S5
  refine r_local S5 (by walk_at "mem") ?_ (by kernel_rfl) (by kernel_rfl) (by kernel_rfl)
  refine r_Slice ?_
  refine r_local S5 (by walk_at "mem") ?_ (by kernel_rfl) (by kernel_rfl) (by kernel_rfl)
  refine wpAny_pure ?_
  refine ⟨_, _, _, _, S5, fun q2 s6 S6 => ?_⟩
  have hb1 : (sliceBounds (some (k : Int)) none none vs.length).1 = k := by simp [sliceBounds]; omega
  have hb2 : (sliceBounds (some (k : Int)) none none vs.length).2.1 = vs.length := by simp [sliceBounds]
  have hacc6 : s6.heap.get? acc = some (accO 212 dA vs n) := S6.muGet (by walk_at "mem")
  have hne : acc ≠ e := fun q => by
    have nd := S6.nod
    simp only [List.map_cons, List.nodup_cons] at nd
    exact nd.1 (List.mem_cons_of_mem _ (List.mem_map.mpr ⟨_, hacc, q⟩))
  refine r_setSlice S6 (LL.sub S6 ac_subok hacc6 rfl) (C := 212) (dA := dA) (n := n) (ws := []) (la := k) (lb := vs.length) (mu' := fun n' => (e, W.listOf [].toArray 0) :: (b, W.listOf (vs.drop k).toArray 0) :: mu' n') (fun n' => ?_) (S6.muGet (.head _)) rfl rfl hne (.head _) (.int _ _) .none hb1 hb2 (by omega) (by simp) ?_
  · refine .tail (.tail ?_)
    have := hm n'
    rw [Nat.max_eq_right hk, List.drop_length, List.append_nil, List.append_nil]
    exact this
  intro n' s7 S7
  refine wpAny_execs_cons ?_
  refine wpAny_Return_some ?_
  refine r_local S7 (by walk_at "mem") ?_ (by kernel_rfl) (by kernel_rfl) (by kernel_rfl)
  exact h b n' s7 (hb.ret S S7.muTail (by walk_at "mem") fun p hp => ⟨.tail _ (.tail _ (.tail _ hp)), .inl hp⟩)
theorem ac_seta : findIn (KF w) (.ref 212) "__setattr__" = some (some (.builtin "object.__setattr__")) := by kernel_rfl
theorem ac_mro2 : (!(accCd w).mro.isEmpty && (accCd w).mro.contains (.type "object")) = true := by kernel_rfl
theorem ac_ref {x : Addr} : refuseLoop (.ref x) "__setattr__" (accCd w).mro = pure () := by kernel_rfl
theorem ac_hd : (accCd w).hasDict = true := by kernel_rfl
theorem ac_tk : takerIn (KF w) 212 "_initial_size" = some none := by kernel_rfl
theorem reset_to {acc dA b : Addr} {vs ws : List Value} {n nb : Nat} {t u : Tok} {k : Int} (S : At (cx w base os mb) L m ((b, W.listOf ws.toArray nb) :: (acc, accO 212 dA vs n) :: (dA, accD w t k u) :: mu) led s) (hsz : vs.length ≤ 100000) (hsz' : ws.length ≤ 100000) (hA : AOk A d) (hd : d ≤ 460)
    (h : ∀ n' u' s', At (cx w base os mb) L m ((acc, accO 212 dA ws n') :: (dA, accD w t 0 u') :: mu) led s' → Q .none s') :
    wpAny (cx w base os mb).M A (call (.ref 194) [.ref acc, .ref b]) Q E s := by
  refine r_def S hA ?a1 (f := 194) (fd := fdA w 194) ?a2 ?a3 (by rfl) (BindsTo.of_defaults (T := 187) (binds := [("self", .ref acc), ("startval", .ref b)]) ?a4 (S.top (a := 187) (by rfl)) (by rfl) (by rfl) (by kernel_rfl)) ?a5 ?a6 [("self", some (.ref acc)), ("startval", some (.ref b))] ?a7 ?a8 ?a9 ?a10 ?a11 ?_
  walk_at "sides"
  intro L' oL s1 S1 hb hA1
  refine wpAny_execs_cons ?_
  refine wpAny_If ?_
  refine wpAny_isTrue_Compare1 ?_
  refine r_local S1 (by walk_at "mem") ?_ (by kernel_rfl) (by kernel_rfl) (by kernel_rfl)
  refine r_none ?_
  refine wpAny_pure ?_
  refine wpAny_truthy_bool ?_
  refine wpAny_execs_nil ?_
  refine wpAny_execs_cons ?_
  refine wpAny_Assign_Subscript ?_
  refine r_local S1 (by walk_at "mem") ?_ (by kernel_rfl) (by kernel_rfl) (by kernel_rfl)
  refine r_local S1 (by walk_at "mem") ?_ (by kernel_rfl) (by kernel_rfl) (by kernel_rfl)
  refine r_Slice ?_
  refine wpAny_pure ?_
  refine wpAny_pure ?_
  refine ⟨_, _, _, _, S1, fun q2 s6 S6 => ?_⟩
  have hacc6 : s6.heap.get? acc = some (accO 212 dA vs n) := S6.muGet (by walk_at "mem")
  have hne : acc ≠ b := fun q => by
    have nd := S6.nod
    simp only [List.map_cons, List.nodup_cons] at nd
    exact nd.1 (by rw [q]; exact List.mem_cons_self)
  have hb1 : (sliceBounds none none none vs.length).1 = (0 : Nat) := by simp [sliceBounds]
  have hb2 : (sliceBounds none none none vs.length).2.1 = vs.length := by simp [sliceBounds]
  refine r_setSlice S6 (LL.sub S6 ac_subok hacc6 rfl) (C := 212) (dA := dA) (n := n) (vs := vs) (ws := ws) (la := 0) (lb := vs.length) (mu' := fun n' => (b, W.listOf ws.toArray nb) :: (acc, accO 212 dA ws n') :: (dA, accD w t k u) :: mu) (fun n' => ?_) (S6.muGet (.head _)) rfl rfl hne (.head _) .none .none hb1 hb2 (by omega) (by omega) ?_
  · have e : vs.take 0 ++ ws ++ vs.drop (max 0 vs.length) = ws := by simp
    rw [e]
    exact .tail .head
  intro n' s7 S7
  refine wpAny_execs_cons ?_
  refine plainObj_wpAny_Assign_Attribute ?_
  refine r_int S7 ?_
  intro t8 s8 S8
  refine r_local S8 (by walk_at "mem") ?_ (by kernel_rfl) (by kernel_rfl) (by kernel_rfl)
  refine r_setattr (mu' := fun _ => (b, W.listOf ws.toArray nb) :: (acc, accO 212 dA ws n') :: (dA, accD w t 0 t8) :: mu) S8 (S8.muGet (by walk_at "mem")) rfl ac_seta ac_cd ac_mro2 ac_ref ac_hd ac_tk (by rfl) (Nat.le_of_ble_eq_true (by kernel_rfl)) (fun t' => .tail (.tail .head)) ?_
  intro t9 s9 S9
  refine wpAny_execs_nil ?_
  exact h n' t8 s9 (hb.ret S S9.muTail (by walk_at "mem") fun p hp => ⟨.tail _ (.tail _ hp), .inl hp⟩)
end
/- FmD02 -/
set_option autoImplicit false
section
variable {w : World} {base : Heap} {os : OsState} {mb : Str → Option Value} {L : Addr} {m : Loc} {mu led : List (Addr × Obj)} {s : Shared} {A : Around} {E : Value → Shared → Prop} {Q : Value → Shared → Prop} {d : Nat}
set_option maxHeartbeats 2000000
theorem fn_len : isFn (KF w) (.ref 179) = true := by kernel_rfl
theorem fn_str : isFn (KF w) (.ref 186) = true := by kernel_rfl
theorem r_lenAcc {acc dA : Addr} {ps : List Part} {n : Nat} {k : Int} {t u : Tok} (S : At (cx w base os mb) L m mu led s) (hacc : (acc, accO 212 dA (refsOf ps) n) ∈ mu) (hdA : (dA, accD w t k u) ∈ mu) (hps : PartsIn led ps) (hsz : Small ps) (hk : 0 ≤ k) (hlen : k + lenOf ps ≤ 10000000) (hA : AOk A d) (hd : d ≤ 460)
    (h : ∀ t' s', At (cx w base os mb) L m mu led s' → Q (.int (k + lenOf ps) t') s') : wpAny (cx w base os mb).M A (call (.builtin "len") [.ref acc]) Q E s := by
  refine r_lenOwn S.inK (instA (S.muGet hacc) (S.muGet hdA)) ac_len fn_len ?_
  refine len_spec S hacc hdA hps hsz hA.in1 (by omega) ?_
  intro t' s' S'
  exact ⟨_, _, rfl, by omega, by omega, h _ _ (S'.toks _)⟩
theorem r_truthAcc {acc dA : Addr} {ps : List Part} {n : Nat} {k : Int} {t u : Tok} {Q : Bool → Shared → Prop} (S : At (cx w base os mb) L m mu led s) (hacc : (acc, accO 212 dA (refsOf ps) n) ∈ mu) (hdA : (dA, accD w t k u) ∈ mu) (hps : PartsIn led ps) (hsz : Small ps) (hk : 0 ≤ k) (hlen : k + lenOf ps ≤ 10000000) (hA : AOk A d) (hd : d ≤ 460)
    (h : ∀ s', At (cx w base os mb) L m mu led s' → Q (k + lenOf ps != 0) s') : wpAny (cx w base os mb).M A (truthy (.ref acc)) Q E s := by
  refine r_truthOwn S.inK (instA (S.muGet hacc) (S.muGet hdA)) ac_bool ac_len fn_len ?_
  refine len_spec S hacc hdA hps hsz hA.in1 (by omega) ?_
  intro t' s' S'
  exact ⟨_, _, rfl, by omega, by omega, h _ (S'.toks _)⟩
theorem r_strAcc {acc dA : Addr} {ps : List Part} {n : Nat} {od : Obj} (S : At (cx w base os mb) L m mu led s) (hacc : (acc, accO 212 dA (refsOf ps) n) ∈ mu) (hdA : (dA, od) ∈ mu) (hps : PartsIn led ps) (hsz : Small ps) (hlen : lenOf ps ≤ 1000000) (hcnt : ps.length ≤ 100000) (hA : AOk A d) (hd : d ≤ 460)
    (h : ∀ t' s', At (cx w base os mb) L m mu led s' → Q (.str (textOf ps) t') s') : wpAny (cx w base os mb).M A (call (.type "str") [.ref acc]) Q E s := by
  refine kso_call (hA.in1.in1.croom (by omega)) S.inK (instA (S.muGet hacc) (S.muGet hdA)) ac_str fn_str ?_
  exact str_spec S hacc hps hsz hlen hcnt hA.in1.in1 (by omega) h
theorem onlyws_no {acc dA : Addr} {vs : List Value} {n : Nat} {k : Int} {t u : Tok} (S : At (cx w base os mb) L m mu led s) (hacc : (acc, accO 212 dA vs n) ∈ mu) (hdA : (dA, accD w t k u) ∈ mu) (hk : 0 < k) (hA : AOk A d) (hd : d ≤ 450)
    (h : ∀ s', At (cx w base os mb) L m mu led s' → Q (.bool false) s') : wpAny (cx w base os mb).M A (call (.ref 201) [.ref acc]) Q E s := by
  refine r_def S hA ?a1 (f := 201) (fd := fdA w 201) ?a2 ?a3 (by rfl) (BindsTo.of_eq (binds := [("self", .ref acc)]) ?a4) ?a5 ?a6 [("self", some (.ref acc))] ?a7 ?a8 ?a9 ?a10 ?a11 ?_
  walk_at "sides"
  intro L' oL s1 S1 hb hA1
  refine wpAny_execs_cons ?_
  refine wpAny_Return_some ?_
  refine BoolOp_and ?_
  refine wpAny_Compare1 ?_
  refine Attribute_name ?_
  refine r_local S1 (by walk_at "mem") ?_ (by kernel_rfl) (by kernel_rfl) (by kernel_rfl)
  refine r_attrA S1 (S1.muGet hacc) rfl (S1.muGet hdA) ac_ga ac_ng ac_mro ac_init (by kernel_rfl) ?_
  intro s2 S2
  refine r_int S2 ?_
  intro t3 s3 S3
  refine eq_int ?_
  rw [show (k == 0) = false by simp; omega]
  refine wpAny_truthy_bool ?_
  exact h _ (hb.ret S S3 (by walk_at "mem") fun p hp => ⟨.tail _ hp, .inl hp⟩)
theorem onlyws_text {acc dA : Addr} {ps : List Part} {n : Nat} {t u : Tok} (S : At (cx w base os mb) L m mu led s) (hacc : (acc, accO 212 dA (refsOf ps) n) ∈ mu) (hdA : (dA, accD w t 0 u) ∈ mu) (hps : PartsIn led ps) (hsz : Small ps) (hpos : 0 < lenOf ps) (hlen : lenOf ps ≤ 1000000) (hcnt : ps.length ≤ 100000) (hA : AOk A d) (hd : d ≤ 450)
    (h : ∀ s', At (cx w base os mb) L m mu led s' → Q (.bool (Txt.isspace (textOf ps))) s') : wpAny (cx w base os mb).M A (call (.ref 201) [.ref acc]) Q E s := by
  refine r_def S hA ?a1 (f := 201) (fd := fdA w 201) ?a2 ?a3 (by rfl) (BindsTo.of_eq (binds := [("self", .ref acc)]) ?a4) ?a5 ?a6 [("self", some (.ref acc))] ?a7 ?a8 ?a9 ?a10 ?a11 ?_
  walk_at "sides"
  intro L' oL s1 S1 hb hA1
  have hps1 : PartsIn ((L, oL) :: led) ps := fun q hq => .tail _ (hps q hq)
  refine wpAny_execs_cons ?_
  refine wpAny_Return_some ?_
  refine BoolOp_and ?_
  refine wpAny_Compare1 ?_
  refine Attribute_name ?_
  refine r_local S1 (by walk_at "mem") ?_ (by kernel_rfl) (by kernel_rfl) (by kernel_rfl)
  refine r_attrA S1 (S1.muGet hacc) rfl (S1.muGet hdA) ac_ga ac_ng ac_mro ac_init (by kernel_rfl) ?_
  intro s2 S2
  refine r_int S2 ?_
  intro t3 s3 S3
  refine eq_int ?_
  refine wpAny_truthy_bool ?_
  refine BoolOp_one ?_
  refine BoolOp_or ?_
  refine wpAny_UnaryOp ?_
  refine r_local S3 (by walk_at "mem") ?_ (by kernel_rfl) (by kernel_rfl) (by kernel_rfl)
  refine not_of ?_
  refine r_truthAcc S3 hacc hdA hps1 hsz (by omega) (by omega) hA1 (by omega) ?_
  intro s4 S4
  rw [show ((0 : Int) + lenOf ps != 0) = true by simp; omega]
  refine wpAny_truthy_bool ?_
  refine BoolOp_one ?_
  refine MethodCall_ ?_
  refine Call_ ?_
  refine r_bi S4 (x := "str") (v := .type "str") (by kernel_rfl) (by kernel_rfl) (by decide) ?_ (by kernel_rfl) (by kernel_rfl) (by kernel_rfl) (by kernel_rfl) (by kernel_rfl)
  refine PyProof.Rows.callWith_type1 ?_
  refine args_cons ?_
  refine r_local S4 (by walk_at "mem") ?_ (by kernel_rfl) (by kernel_rfl) (by kernel_rfl)
  refine args_nil ?_
  refine r_strAcc S4 hacc hdA hps1 hsz hlen hcnt hA1 (by omega) ?_
  intro t5 s5 S5
  refine GM.isspace ?_
  refine Calls.callWith_builtin rfl (PySem.evalArgs_none ?_)
  refine call_gives F.slot_str_isspace (typeIs_str _ _ _) F.entry_str_isspace (F.args_str_isspace_1 _) (gives_str_isspace _ _) ?_
  exact h _ (hb.ret S S5 (by walk_at "mem") fun p hp => ⟨.tail _ hp, .inl hp⟩)
end
/- FmE02 -/
set_option autoImplicit false
section
variable {w : World} {base : Heap} {os : OsState} {mb : Str → Option Value} {L : Addr} {m : Loc} {mu led : List (Addr × Obj)} {s : Shared} {A : Around} {E : Value → Shared → Prop} {Q : Value → Shared → Prop} {d : Nat}
set_option maxHeartbeats 2000000
theorem reset_none {acc dA : Addr} {vs : List Value} {n : Nat} {t u : Tok} {k : Int} (S : At (cx w base os mb) L m ((acc, accO 212 dA vs n) :: (dA, accD w t k u) :: mu) led s) (hsz : vs.length ≤ 100000) (hA : AOk A d) (hd : d ≤ 460)
    (h : ∀ n' u' s', At (cx w base os mb) L m ((acc, accO 212 dA [] n') :: (dA, accD w t 0 u') :: mu) led s' → Q .none s') :
    wpAny (cx w base os mb).M A (call (.ref 194) [.ref acc]) Q E s := by
  refine r_def S hA ?a1 (f := 194) (fd := fdA w 194) ?a2 ?a3 (by rfl) (BindsTo.of_defaults (T := 187) (binds := [("self", .ref acc), ("startval", .none)]) ?a4 (S.top (a := 187) (by rfl)) (by rfl) (by rfl) (by kernel_rfl)) ?a5 ?a6 [("self", some (.ref acc)), ("startval", some .none)] ?a7 ?a8 ?a9 ?a10 ?a11 ?_
  walk_at "sides"
  intro L' oL s1 S1 hb hA1
  refine wpAny_execs_cons ?_
  refine wpAny_If ?_
  refine wpAny_isTrue_Compare1 ?_
  refine r_local S1 (by walk_at "mem") ?_ (by kernel_rfl) (by kernel_rfl) (by kernel_rfl)
  refine r_none ?_
  refine wpAny_pure ?_
  refine wpAny_truthy_bool ?_
  refine wpAny_execs_cons ?_
  refine wpAny_Assign_Name ?_
  refine List_ ?_
  refine args_nil ?_
  refine r_newList S1 ?_ (by kernel_rfl)
  intro b s2 S2
  refine r_store S2 (.tail .head) ?_ (by kernel_rfl) (by kernel_rfl)
  intro s3 S3
  refine wpAny_execs_nil ?_
  refine wpAny_execs_cons ?_
  refine wpAny_Assign_Subscript ?_
  refine r_local S3 (by walk_at "mem") ?_ (by kernel_rfl) (by kernel_rfl) (by kernel_rfl)
  refine r_local S3 (by walk_at "mem") ?_ (by kernel_rfl) (by kernel_rfl) (by kernel_rfl)
  refine r_Slice ?_
  refine wpAny_pure ?_
  refine wpAny_pure ?_
  refine ⟨_, _, _, _, S3, fun q2 s6 S6 => ?_⟩
  have hacc6 : s6.heap.get? acc = some (accO 212 dA vs n) := S6.muGet (by walk_at "mem")
  have hne : acc ≠ b := fun q => by
    have nd := S6.nod
    simp only [List.map_cons, List.nodup_cons] at nd
    exact nd.1 (by rw [q]; exact List.mem_cons_self)
  have hb1 : (sliceBounds none none none vs.length).1 = (0 : Nat) := by simp [sliceBounds]
  have hb2 : (sliceBounds none none none vs.length).2.1 = vs.length := by simp [sliceBounds]
  refine r_setSlice S6 (LL.sub S6 ac_subok hacc6 rfl) (C := 212) (dA := dA) (n := n) (vs := vs) (ws := []) (la := 0) (lb := vs.length) (mu' := fun n' => (b, W.listOf [].toArray 0) :: (acc, accO 212 dA [] n') :: (dA, accD w t k u) :: mu) (fun n' => ?_) (S6.muGet (.head _)) rfl rfl hne (.head _) .none .none hb1 hb2 (by omega) (by simp) ?_
  · have e : vs.take 0 ++ ([] : List Value) ++ vs.drop (max 0 vs.length) = [] := by simp
    rw [e]
    exact .tail .head
  intro n' s7 S7
  refine wpAny_execs_cons ?_
  refine plainObj_wpAny_Assign_Attribute ?_
  refine r_int S7 ?_
  intro t8 s8 S8
  refine r_local S8 (by walk_at "mem") ?_ (by kernel_rfl) (by kernel_rfl) (by kernel_rfl)
  refine r_setattr (mu' := fun _ => (b, W.listOf [].toArray 0) :: (acc, accO 212 dA [] n') :: (dA, accD w t 0 t8) :: mu) S8 (S8.muGet (by walk_at "mem")) rfl ac_seta ac_cd ac_mro2 ac_ref ac_hd ac_tk (by rfl) (Nat.le_of_ble_eq_true (by kernel_rfl)) (fun t' => .tail (.tail .head)) ?_
  intro t9 s9 S9
  refine wpAny_execs_nil ?_
  exact h n' t8 s9 (hb.ret S S9.muTail (by walk_at "mem") fun p hp => ⟨.tail _ (.tail _ hp), .inl hp⟩)
theorem vf_ga : findIn (KF w) (.ref 128) "__getattribute__" = some (some (.builtin "object.__getattribute__")) := by kernel_rfl
theorem vf_lines {f : Fmt} : findObj (KF w) 128 (some (f.dict w)) "_lines" = some (.value (.ref f.ln)) := by kernel_rfl
theorem vf_cur {f : Fmt} : findObj (KF w) 128 (some (f.dict w)) "_current_line" = some (.value (.ref f.acc)) := by kernel_rfl
theorem vf_max {f : Fmt} : findObj (KF w) 128 (some (f.dict w)) "_maxlen" = some (.value (.int f.maxlen (f.vt 0))) := by kernel_rfl
theorem vf_sc {f : Fmt} : findObj (KF w) 128 (some (f.dict w)) "_splitchars" = some (.value (.str f.sc (f.vt 3))) := by kernel_rfl
theorem fn_push : typeIn (KF w) (.ref 156) = some (.type "function") := by kernel_rfl
theorem fn_pop : typeIn (KF w) (.ref 172) = some (.type "function") := by kernel_rfl
theorem fn_reset : typeIn (KF w) (.ref 194) = some (.type "function") := by kernel_rfl
theorem fn_onlyws : typeIn (KF w) (.ref 201) = some (.type "function") := by kernel_rfl
theorem ac_pushB {t u : Tok} {k : Int} : findObj (KF w) 212 (some (accD w t k u)) "push" = some (.bind (.builtin "function.__get__") (.ref 156)) := by kernel_rfl
theorem fi_push : fnIn (KF w) 156 = true := by kernel_rfl
theorem kp_push : keepIn (KF w) (.ref 156) = true := by kernel_rfl
theorem kp_pop : keepIn (KF w) (.ref 172) = true := by kernel_rfl
theorem kp_reset : keepIn (KF w) (.ref 194) = true := by kernel_rfl
theorem kp_onlyws : keepIn (KF w) (.ref 201) = true := by kernel_rfl
theorem li_append : findIn (KF w) (.type "list") "append" = some (some (.builtin "list.append")) := by kernel_rfl
theorem li_appendT : typeIn (KF w) (.builtin "list.append") = some (.type "method_descriptor") := by kernel_rfl
/-- an attribute of the formatter -/
theorem r_fattr {f : Fmt} {name : Str} {v : Value} {expr : Bool} (S : At (cx w base os mb) L m mu led s) (hF : (f.F, f.obj 128) ∈ led) (hD : (f.dF, f.dict w) ∈ led) (hf : findObj (KF w) 128 (some (f.dict w)) name = some (.value v)) (hh : handedIn v = true) (h : ∀ s', At (cx w base os mb) L m mu led s' → Q v s') : wpAny (cx w base os mb).M A (getAttr (.ref f.F) name expr) Q E s :=
  r_attr S (S.ledGet hF) rfl (S.ledGet hD) vf_ga hf hh h
theorem onlyws_false {acc dA : Addr} {ps : List Part} {n : Nat} {k : Int} {t u : Tok} (S : At (cx w base os mb) L m mu led s) (hacc : (acc, accO 212 dA (refsOf ps) n) ∈ mu) (hdA : (dA, accD w t k u) ∈ mu) (hps : PartsIn led ps) (hsz : Small ps) (hpos : 0 < k + lenOf ps) (hlen : lenOf ps ≤ 1000000) (hcnt : ps.length ≤ 100000) (hws : 0 < k ∨ (k = 0 ∧ Txt.isspace (textOf ps) = false)) (hA : AOk A d) (hd : d ≤ 450)
    (h : ∀ s', At (cx w base os mb) L m mu led s' → Q (.bool false) s') : wpAny (cx w base os mb).M A (call (.ref 201) [.ref acc]) Q E s := by
  rcases hws with hk | ⟨rfl, hs⟩
  · exact onlyws_no S hacc hdA hk hA hd h
  · refine onlyws_text S hacc hdA hps hsz (by omega) hlen hcnt hA hd ?_
    rw [hs]
    exact h
/-- the row is written: what is in it is no blank alone -/
theorem newline_spec {f : Fmt} {ps : List Part} {q : Part} {n nl : Nat} {t u : Tok} {k : Int} {ls : List (Str × Tok)}
    (S : At (cx w base os mb) L m ((f.acc, accO 212 f.dA (refsOf (ps ++ [q])) n) :: (f.dA, accD w t k u) :: (f.ln, W.listOf (strValues ls).toArray nl) :: mu) led s)
    (hF : (f.F, f.obj 128) ∈ led) (hD : (f.dF, f.dict w) ∈ led) (hps : PartsIn led (ps ++ [q])) (hsz : Small (ps ++ [q])) (hk : 0 ≤ k) (hkl : k ≤ 1000000) (hlen : lenOf (ps ++ [q]) ≤ 1000000) (hcnt : ps.length ≤ 10000) (hls : ls.length ≤ 10000)
    (hq : (q.f == (" " : Str) && q.p == ("" : Str)) = false) (hof : PyData.strOk q.f = true) (hop : PyData.strOk q.p = true) (hpos : 0 < k + lenOf (ps ++ [q])) (hws : 0 < k ∨ (k = 0 ∧ Txt.isspace (textOf (ps ++ [q])) = false)) (hA : AOk A d) (hd : d ≤ 440)
    (h : ∀ n' u' t' s', At (cx w base os mb) L m ((f.acc, accO 212 f.dA [] n') :: (f.dA, accD w t 0 u') :: (f.ln, W.listOf (strValues (ls ++ [(textOf (ps ++ [q]), t')])).toArray (nl + 1)) :: mu) led s' → Q .none s') :
    wpAny (cx w base os mb).M A (call (.ref 90) [.ref f.F]) Q E s := by
  rw [refsOf_snoc] at S
  refine r_def S hA ?a1 (f := 90) (fd := fdA w 90) ?a2 ?a3 (by rfl) (BindsTo.of_eq (binds := [("self", .ref f.F)]) ?a4) ?a5 ?a6 [("self", some (.ref f.F)), ("end_of_line", none)] ?a7 ?a8 ?a9 ?a10 ?a11 ?_
  walk_at "sides"
  intro L' oL s1 S1 hb hA1
  have hq0 : q.obj ∈ led := hps q (by simp)
  refine wpAny_execs_cons ?_
  refine wpAny_Assign_Name ?_
  refine MethodCall_ ?_
  refine Attribute_name ?_
  refine r_local S1 (by walk_at "mem") ?_ (by kernel_rfl) (by kernel_rfl) (by kernel_rfl)
  refine r_fattr S1 (.tail _ hF) (.tail _ hD) vf_cur rfl ?_
  intro s2 S2
  refine r_am S2 (.head _) (.tail _ (.head _)) ac_pop fn_pop (by kernel_rfl) ?_
  refine callWith_K0 S2.inK kp_pop ?_
  refine pop_last S2 .head (.tail _ (.head _)) (by simp [refsOf]; omega) hA1 (by omega) ?_
  intro s3 S3
  refine r_store S3 (.tail .head) ?_ (by kernel_rfl) (by kernel_rfl)
  intro s4 S4
  refine wpAny_execs_cons ?_
  refine wpAny_If ?_
  refine wpAny_isTrue_Compare1 ?_
  refine r_local S4 (by walk_at "mem") ?_ (by kernel_rfl) (by kernel_rfl) (by kernel_rfl)
  refine Tuple_ ?_
  refine args_cons ?_
  refine r_str S4 ?_
  intro t5 s5 S5
  refine args_cons ?_
  refine r_str S5 ?_
  intro t6 s6 S6
  refine args_nil ?_
  refine r_newTuple S6 ?_ (by kernel_rfl)
  intro e7 s7 S7
  refine r_nePair S7 (.tail _ (.tail _ hq0)) (.head _) hof hop (by kernel_rfl) (by kernel_rfl) hA1 (by omega) ?_
  rw [hq]
  refine wpAny_truthy_bool ?_
  refine wpAny_execs_cons ?_
  refine wpAny_Expr ?_ (by kernel_rfl) (by kernel_rfl)
  refine Call_attr_star ?_
  refine Attribute_name ?_
  refine r_local S7 (by walk_at "mem") ?_ (by kernel_rfl) (by kernel_rfl) (by kernel_rfl)
  refine r_fattr S7 (.tail _ (.tail _ hF)) (.tail _ (.tail _ hD)) vf_cur rfl ?_
  intro s8 S8
  refine r_attrM S8 (S8.muGet (.head _)) rfl (S8.muGet (.tail _ (.head _))) ac_ga ac_ng ac_mro ac_pushB (of := { cls := .type "function", data := .func (fdA w 156) }) (by kernel_rfl) rfl ?_
  intro q8 s8' S8'
  refine callM_star (f := 156) (x := f.acc) fi_push ?_
  refine r_local S8' (by walk_at "mem") ?_ (by kernel_rfl) (by kernel_rfl) (by kernel_rfl)
  refine r_star S8' (.tail _ (.tail _ (.tail _ hq0))) (by simp) ?_
  intro s9 S9
  refine ⟨⟨S9.ledGet (.head _), S9.inK⟩, ?_⟩
  refine push_code S9 (fun a => .head) (.tail _ (.head _)) hA1 (by omega) (by simp [refsOf]; omega) ?_
  intro a10 s10 S10
  refine wpAny_execs_nil ?_
  have hqs : PartsIn ((a10, tupO [Value.str q.f q.t, Value.str q.p q.u]) :: (q8, methodObj (.ref 156) (.ref f.acc)) :: (e7, tupO [.str " " t5, .str "" t6]) :: (L, oL) :: led) (ps ++ [{ q with a := a10 }]) := by
    intro p hp
    rcases List.mem_append.mp hp with hp | hp
    · exact .tail _ (.tail _ (.tail _ (.tail _ (hps p (List.mem_append_left _ hp)))))
    · cases List.mem_singleton.mp hp; exact .head _
  have e0 : refsOf ps ++ [.ref a10] = refsOf (ps ++ [{ q with a := a10 }]) := (refsOf_snoc ps { q with a := a10 }).symm
  have e1 : lenOf (ps ++ [{ q with a := a10 }]) = lenOf (ps ++ [q]) := by simp [lenOf]
  have e2 : textOf (ps ++ [{ q with a := a10 }]) = textOf (ps ++ [q]) := by simp [textOf, partText]
  have hsz' : Small (ps ++ [{ q with a := a10 }]) := by
    intro p hp
    rcases List.mem_append.mp hp with hp | hp
    · exact hsz p (List.mem_append_left _ hp)
    · cases List.mem_singleton.mp hp; exact hsz q (by simp)
  rw [e0] at S10
  refine wpAny_execs_cons ?_
  refine wpAny_If ?_
  refine wpAny_isTrue_Compare1 ?_
  refine Call_ ?_
  refine r_bi S10 (x := "len") (v := .builtin "len") (by kernel_rfl) (by kernel_rfl) (by decide) ?_ (by kernel_rfl) (by kernel_rfl) (by kernel_rfl) (by kernel_rfl) (by kernel_rfl)
  refine callWith_method1 ?_
  refine args_cons ?_
  refine Attribute_name ?_
  refine r_local S10 (by walk_at "mem") ?_ (by kernel_rfl) (by kernel_rfl) (by kernel_rfl)
  refine r_fattr S10 (.tail _ (.tail _ (.tail _ (.tail _ hF)))) (.tail _ (.tail _ (.tail _ (.tail _ hD)))) vf_cur rfl ?_
  intro s11 S11
  refine args_nil ?_
  refine r_lenAcc S11 (.head _) (.tail _ (.head _)) hqs hsz' hk (by omega) hA1 (by omega) ?_
  intro t12 s12 S12
  refine r_int S12 ?_
  intro t13 s13 S13
  refine gt_int ?_
  rw [e1, show decide ((k : Int) + lenOf (ps ++ [q]) > 0) = true by simpa using hpos]
  refine wpAny_truthy_bool ?_
  refine wpAny_execs_cons ?_
  refine wpAny_If ?_
  refine isTrue_and ?_
  refine isTrue_plain ?_
  refine MethodCall_ ?_
  refine Attribute_name ?_
  refine r_local S13 (by walk_at "mem") ?_ (by kernel_rfl) (by kernel_rfl) (by kernel_rfl)
  refine r_fattr S13 (.tail _ (.tail _ (.tail _ (.tail _ hF)))) (.tail _ (.tail _ (.tail _ (.tail _ hD)))) vf_cur rfl ?_
  intro s14 S14
  refine r_am S14 (.head _) (.tail _ (.head _)) ac_onlyws fn_onlyws (by kernel_rfl) ?_
  refine callWith_K0 S14.inK kp_onlyws ?_
  refine onlyws_false S14 (.head _) (.tail _ (.head _)) hqs hsz' (by rw [e1]; exact hpos) (by rw [e1]; exact hlen) (by simp; omega) (by rw [e2]; exact hws) hA1 (by omega) ?_
  intro s15 S15
  refine wpAny_truthy_bool ?_
  refine wpAny_execs_cons ?_
  refine wpAny_Expr ?_ (by kernel_rfl) (by kernel_rfl)
  refine MethodCall_ ?_
  refine Attribute_name ?_
  refine r_local S15 (by walk_at "mem") ?_ (by kernel_rfl) (by kernel_rfl) (by kernel_rfl)
  refine r_fattr S15 (.tail _ (.tail _ (.tail _ (.tail _ hF)))) (.tail _ (.tail _ (.tail _ (.tail _ hD)))) vf_lines rfl ?_
  intro s16 S16
  refine r_methL S16 (S16.muGet (.tail _ (.tail _ (.head _)))) rfl rfl li_append li_appendT ?_
  refine callWith_method1 ?_
  refine args_cons ?_
  refine Call_ ?_
  refine r_bi S16 (x := "str") (v := .type "str") (by kernel_rfl) (by kernel_rfl) (by decide) ?_ (by kernel_rfl) (by kernel_rfl) (by kernel_rfl) (by kernel_rfl) (by kernel_rfl)
  refine PyProof.Rows.callWith_type1 ?_
  refine args_cons ?_
  refine Attribute_name ?_
  refine r_local S16 (by walk_at "mem") ?_ (by kernel_rfl) (by kernel_rfl) (by kernel_rfl)
  refine r_fattr S16 (.tail _ (.tail _ (.tail _ (.tail _ hF)))) (.tail _ (.tail _ (.tail _ (.tail _ hD)))) vf_cur rfl ?_
  intro s17 S17
  refine args_nil ?_
  refine r_strAcc S17 (.head _) (.tail _ (.head _)) hqs hsz' (by rw [e1]; exact hlen) (by simp; omega) hA1 (by omega) ?_
  intro t18 s18 S18
  refine args_nil ?_
  refine r_appendL S18 (.tail (.tail .head)) (by simp [strValues]; omega) ?_
  intro s19 S19
  refine wpAny_execs_nil ?_
  refine wpAny_execs_nil ?_
  refine wpAny_execs_cons ?_
  refine wpAny_Expr ?_ (by kernel_rfl) (by kernel_rfl)
  refine MethodCall_ ?_
  refine Attribute_name ?_
  refine r_local S19 (by walk_at "mem") ?_ (by kernel_rfl) (by kernel_rfl) (by kernel_rfl)
  refine r_fattr S19 (.tail _ (.tail _ (.tail _ (.tail _ hF)))) (.tail _ (.tail _ (.tail _ (.tail _ hD)))) vf_cur rfl ?_
  intro s20 S20
  refine r_am S20 (.head _) (.tail _ (.head _)) ac_reset fn_reset (by kernel_rfl) ?_
  refine callWith_K0 S20.inK kp_reset ?_
  refine reset_none S20 (by simp [refsOf]; omega) hA1 (by omega) ?_
  intro n21 u21 s21 S21
  refine wpAny_execs_nil ?_
  rw [← strValues_snoc, e2] at S21
  exact h n21 u21 t18 s21 (hb.ret S S21 (by walk_at "mem") fun p hp => ⟨.tail _ (.tail _ (.tail _ (.tail _ hp))), .inl hp⟩)
end
/- FmF02 -/
set_option autoImplicit false
section
variable {w : World} {base : Heap} {os : OsState} {mb : Str → Option Value} {L : Addr} {m : Loc} {mu led : List (Addr × Obj)} {s : Shared} {A : Around} {E : Value → Shared → Prop} {Q : Value → Shared → Prop} {d : Nat}
set_option maxHeartbeats 2000000
theorem fn_pc : typeIn (KF w) (.ref 209) = some (.type "function") := by kernel_rfl
theorem kp_pc : keepIn (KF w) (.ref 209) = true := by kernel_rfl
theorem fn_popf : typeIn (KF w) (.ref 164) = some (.type "function") := by kernel_rfl
theorem kp_popf : keepIn (KF w) (.ref 164) = true := by kernel_rfl
abbrev locC (F : Addr) (fw st ch i pp pa re : Option Value) : Loc := [("self", some (.ref F)), ("fws", fw), ("string", st), ("ch", ch), ("i", i), ("prevpart", pp), ("part", pa), ("remainder", re)]
theorem locC_sub {F : Addr} {fw st ch i pp pa re fw' st' ch' i' pp' pa' re' : Option Value} (S : At (cx w base os mb) L (locC F fw st ch i pp pa re) mu led s) (h1 : fw' = fw ∨ fw' = none) (h2 : st' = st ∨ st' = none) (h3 : ch' = ch ∨ ch' = none) (h4 : i' = i ∨ i' = none) (h5 : pp' = pp ∨ pp' = none) (h6 : pa' = pa ∨ pa' = none) (h7 : re' = re ∨ re' = none) :
    At (cx w base os mb) L (locC F fw' st' ch' i' pp' pa' re') mu led s := by
  refine S.locSub rfl fun x v hm => ?_
  simp only [List.mem_cons, Prod.mk.injEq, List.not_mem_nil, or_false] at hm ⊢
  rcases hm with ⟨rfl, e⟩ | ⟨rfl, e⟩ | ⟨rfl, e⟩ | ⟨rfl, e⟩ | ⟨rfl, e⟩ | ⟨rfl, e⟩ | ⟨rfl, e⟩ | ⟨rfl, e⟩
  · exact .inl ⟨rfl, e⟩
  · rcases h1 with rfl | rfl
    · exact .inr (.inl ⟨rfl, e⟩)
    · cases e
  · rcases h2 with rfl | rfl
    · exact .inr (.inr (.inl ⟨rfl, e⟩))
    · cases e
  · rcases h3 with rfl | rfl
    · exact .inr (.inr (.inr (.inl ⟨rfl, e⟩)))
    · cases e
  · rcases h4 with rfl | rfl
    · exact .inr (.inr (.inr (.inr (.inl ⟨rfl, e⟩))))
    · cases e
  · rcases h5 with rfl | rfl
    · exact .inr (.inr (.inr (.inr (.inr (.inl ⟨rfl, e⟩)))))
    · cases e
  · rcases h6 with rfl | rfl
    · exact .inr (.inr (.inr (.inr (.inr (.inr (.inl ⟨rfl, e⟩))))))
    · cases e
  · rcases h7 with rfl | rfl
    · exact .inr (.inr (.inr (.inr (.inr (.inr (.inr ⟨rfl, e⟩))))))
    · cases e
theorem lenOf_append (as bs : List Part) : lenOf (as ++ bs) = lenOf as + lenOf bs := by simp [lenOf]
abbrev mkP (a : Addr) (x y : Str) (tx ty : Tok) : Part := ⟨a, x, y, tx, ty⟩
theorem cutB_addr (sp : Bool) (ch : Nat) (ps : List Part) (a a' : Addr) (x y : Str) (tx ty : Tok) (j : Nat) : cutB sp ch (ps ++ [mkP a x y tx ty]) j = cutB sp ch (ps ++ [mkP a' x y tx ty]) j := by
  have key : ∀ i, ((ps ++ [mkP a x y tx ty]).getD i Part.dflt).f = ((ps ++ [mkP a' x y tx ty]).getD i Part.dflt).f ∧ ((ps ++ [mkP a x y tx ty]).getD i Part.dflt).p = ((ps ++ [mkP a' x y tx ty]).getD i Part.dflt).p := by
    intro i
    simp only [List.getD_eq_getElem?_getD, List.getElem?_append]
    split
    · exact ⟨rfl, rfl⟩
    · cases i - ps.length with
      | zero => exact ⟨rfl, rfl⟩
      | succ k => exact ⟨rfl, rfl⟩
  unfold cutB
  rw [(key j).1, (key (j - 1)).2]
theorem chunk_spec {f : Fmt} {ps : List Part} {n nl : Nat} {t u tx ty : Tok} {ls : List (Str × Tok)} {x y : Str} {ch : Nat} {sp : Bool}
    (S : At (cx w base os mb) L m ((f.acc, accO 212 f.dA (refsOf ps) n) :: (f.dA, accD w t 0 u) :: (f.ln, W.listOf (strValues ls).toArray nl) :: mu) led s)
    (hF : (f.F, f.obj 128) ∈ led) (hD : (f.dF, f.dict w) ∈ led) (hps : PartsIn led ps) (hsz : Small ps) (hx : x.length ≤ 100000) (hy : y.length ≤ 100000) (hlen : lenOf ps + x.length + y.length ≤ 1000000) (hcnt : ps.length ≤ 10000) (hls : ls.length ≤ 10000)
    (hsc : f.sc = ⟨#[ch]⟩) (hch : ch < 128) (hsp : Txt.isspace ⟨#[ch]⟩ = sp) (hA : AOk A d) (hd : d ≤ 430)
    (h1 : ((lenOf ps + x.length + y.length : Nat) : Int) ≤ f.maxlen → ∀ a n' s', At (cx w base os mb) L m ((f.acc, accO 212 f.dA (refsOf (ps ++ [mkP a x y tx ty])) n') :: (f.dA, accD w t 0 u) :: (f.ln, W.listOf (strValues ls).toArray nl) :: mu) ((a, tupO [.str x tx, .str y ty]) :: led) s' → Q .none s')
    (h2 : f.maxlen < ((lenOf ps + x.length + y.length : Nat) : Int) → ∀ a i n' u' t' s', 1 ≤ i → i ≤ ps.length → cutB sp ch (ps ++ [mkP a x y tx ty]) i = true → (∀ j, i < j → j ≤ ps.length → cutB sp ch (ps ++ [mkP a x y tx ty]) j = false) →
      At (cx w base os mb) L m ((f.acc, accO 212 f.dA (refsOf ((ps ++ [mkP a x y tx ty]).drop i)) n') :: (f.dA, accD w t 0 u') :: (f.ln, W.listOf (strValues (ls ++ [(textOf ((ps ++ [mkP a x y tx ty]).take i), t')])).toArray (nl + 1)) :: mu) ((a, tupO [.str x tx, .str y ty]) :: led) s' → Q .none s')
    (h3 : f.maxlen < ((lenOf ps + x.length + y.length : Nat) : Int) → ∀ a n' s', (∀ j, 1 ≤ j → j ≤ ps.length → cutB sp ch (ps ++ [mkP a x y tx ty]) j = false) → At (cx w base os mb) L m ((f.acc, accO 212 f.dA (refsOf (ps ++ [mkP a x y tx ty])) n') :: (f.dA, accD w t 0 u) :: (f.ln, W.listOf (strValues ls).toArray nl) :: mu) ((a, tupO [.str x tx, .str y ty]) :: led) s' → Q .none s') :
    wpAny (cx w base os mb).M A (call (.ref 125) [.ref f.F, .str x tx, .str y ty]) Q E s := by
  refine r_def S hA ?a1 (f := 125) (fd := fdA w 125) ?a2 ?a3 (by rfl) (BindsTo.of_eq (binds := [("self", .ref f.F), ("fws", .str x tx), ("string", .str y ty)]) ?a4) ?a5 ?a6 (locC f.F (some (.str x tx)) (some (.str y ty)) none none none none none) ?a7 ?a8 ?a9 ?a10 ?a11 ?_
  walk_at "sides"
  intro L' oL s1 S1 hb hA1
  refine wpAny_execs_cons ?_
  refine wpAny_Expr ?_ (by kernel_rfl) (by kernel_rfl)
  refine MethodCall_ ?_
  refine Attribute_name ?_
  refine r_local S1 (by walk_at "mem") ?_ (by kernel_rfl) (by kernel_rfl) (by kernel_rfl)
  refine r_fattr S1 (.tail _ hF) (.tail _ hD) vf_cur rfl ?_
  intro s2 S2
  refine r_am S2 (.head _) (.tail _ (.head _)) ac_push fn_push (by kernel_rfl) ?_
  refine callWith_K S2.inK kp_push ?_
  refine args_cons ?_
  refine r_local S2 (by walk_at "mem") ?_ (by kernel_rfl) (by kernel_rfl) (by kernel_rfl)
  refine args_cons ?_
  refine r_local S2 (by walk_at "mem") ?_ (by kernel_rfl) (by kernel_rfl) (by kernel_rfl)
  refine args_nil ?_
  refine ⟨S2.inK, ?_⟩
  refine push_spec S2 (fun a => .head) (.tail _ (.head _)) hA1 (by omega) (by simp [refsOf]; omega) ?_
  intro a s3 S3
  have e0 : refsOf ps ++ [.ref a] = refsOf (ps ++ [mkP a x y tx ty]) := (refsOf_snoc ps (mkP a x y tx ty)).symm
  rw [e0] at S3
  have hqs : PartsIn ((a, tupO [.str x tx, .str y ty]) :: (L, oL) :: led) (ps ++ [mkP a x y tx ty]) := by
    intro p hp
    rcases List.mem_append.mp hp with hp | hp
    · exact .tail _ (.tail _ (hps p hp))
    · cases List.mem_singleton.mp hp; exact .head _
  have hsz' : Small (ps ++ [mkP a x y tx ty]) := by
    intro p hp
    rcases List.mem_append.mp hp with hp | hp
    · exact hsz p hp
    · cases List.mem_singleton.mp hp; exact ⟨hx, hy⟩
  have e1 : lenOf (ps ++ [mkP a x y tx ty]) = lenOf ps + x.length + y.length := by simp [lenOf]; omega
  have e2 : (ps ++ [mkP a x y tx ty] : List Part).length = ps.length + 1 := by simp
  generalize hqq : (ps ++ [mkP a x y tx ty] : List Part) = qs at *
  refine wpAny_execs_cons ?_
  refine wpAny_If ?_
  refine wpAny_isTrue_Compare1 ?_
  refine Call_ ?_
  refine r_bi S3 (x := "len") (v := .builtin "len") (by kernel_rfl) (by kernel_rfl) (by decide) ?_ (by kernel_rfl) (by kernel_rfl) (by kernel_rfl) (by kernel_rfl) (by kernel_rfl)
  refine callWith_method1 ?_
  refine args_cons ?_
  refine Attribute_name ?_
  refine r_local S3 (by walk_at "mem") ?_ (by kernel_rfl) (by kernel_rfl) (by kernel_rfl)
  refine r_fattr S3 (.tail _ (.tail _ hF)) (.tail _ (.tail _ hD)) vf_cur rfl ?_
  intro s4 S4
  refine args_nil ?_
  refine r_lenAcc S4 (.head _) (.tail _ (.head _)) hqs hsz' (by omega) (by omega) hA1 (by omega) ?_
  intro t5 s5 S5
  refine Attribute_name ?_
  refine r_local S5 (by walk_at "mem") ?_ (by kernel_rfl) (by kernel_rfl) (by kernel_rfl)
  refine r_fattr S5 (.tail _ (.tail _ hF)) (.tail _ (.tail _ hD)) vf_max rfl ?_
  intro s6 S6
  refine gt_int ?_
  refine wpAny_truthy_bool ?_
  by_cases hgt : f.maxlen < ((lenOf ps + x.length + y.length : Nat) : Int)
  case neg =>
    rw [show decide ((0 : Int) + lenOf qs > f.maxlen) = false by simp; omega]
    refine wpAny_execs_nil ?_
    refine wpAny_execs_nil ?_
    rw [← hqq] at S6
    exact h1 (by omega) a _ _ (hb.ret S S6 (by walk_at "mem") (mem_all_cons ⟨.head _, .inr rfl⟩ fun p hp => ⟨.tail _ (.tail _ hp), .inl hp⟩))
  rw [show decide ((0 : Int) + lenOf qs > f.maxlen) = true by simp; omega]
  refine wpAny_execs_cons ?_
  have hq : ∀ (i : Nat), i ≤ ps.length → ∃ q, qs[i]? = some q ∧ q ∈ qs := fun i hi => ⟨qs[i]'(by omega), by simp, List.getElem_mem _⟩
  have hgD : ∀ (i : Nat) (q : Part), qs[i]? = some q → qs.getD i Part.dflt = q := fun i q e => by rw [List.getD_eq_getElem?_getD, e]; rfl
  have hrf : ∀ (i : Nat) (q : Part), qs[i]? = some q → (refsOf qs)[i]? = some (Value.ref q.a) := fun i q e => by simp [refsOf, e]
  refine wpAny_mono (Q := fun fl s' => (fl = .next ∧ ∃ (i : Nat) (ti : Tok), 1 ≤ i ∧ i ≤ ps.length ∧ cutB sp ch qs i = true ∧ (∀ j, i < j → j ≤ ps.length → cutB sp ch qs j = false) ∧ At (cx w base os mb) L' (locC f.F none none none (some (.int i ti)) none none none) ((f.acc, accO 212 f.dA (refsOf qs) (n + 1)) :: (f.dA, accD w t 0 u) :: (f.ln, W.listOf (strValues ls).toArray nl) :: mu) ((a, tupO [.str x tx, .str y ty]) :: (L, oL) :: led) s') ∨
      (fl = .ret .none ∧ (∀ j, 1 ≤ j → j ≤ ps.length → cutB sp ch qs j = false) ∧ ∃ a' n', At (cx w base os mb) L' (locC f.F none none none none none none none) ((f.acc, accO 212 f.dA (refsOf (ps ++ [mkP a' x y tx ty])) n') :: (f.dA, accD w t 0 u) :: (f.ln, W.listOf (strValues ls).toArray nl) :: mu) ((a', tupO [.str x tx, .str y ty]) :: (L, oL) :: led) s')) (E := fun _ _ => False) ?_ ?_ (fun _ _ z => z.elim)
  · refine wpAny_For ?_
    refine Attribute_name ?_
    refine r_local S6 (by walk_at "mem") ?_ (by kernel_rfl) (by kernel_rfl) (by kernel_rfl)
    refine r_fattr S6 (.tail _ (.tail _ hF)) (.tail _ (.tail _ hD)) vf_sc rfl ?_
    intro s7 S7
    rw [hsc]
    refine it_str S7 (by simp [hch]) ?_
    intro sit so s8 hso S8
    refine r_for (J := fun j s' => (j = 0 ∧ At (cx w base os mb) L' (locC f.F none none none none none none none) ((sit, so) :: (f.acc, accO 212 f.dA (refsOf qs) (n + 1)) :: (f.dA, accD w t 0 u) :: (f.ln, W.listOf (strValues ls).toArray nl) :: mu) ((a, tupO [.str x tx, .str y ty]) :: (L, oL) :: led) s') ∨
      (j = 1 ∧ (∀ j, 1 ≤ j → j ≤ ps.length → cutB sp ch qs j = false) ∧ ∃ so', ItS ⟨#[ch]⟩ (f.vt 3) 1 so' ∧ At (cx w base os mb) L' (locC f.F none none none none none none none) ((sit, so') :: (f.acc, accO 212 f.dA (refsOf qs) (n + 1)) :: (f.dA, accD w t 0 u) :: (f.ln, W.listOf (strValues ls).toArray nl) :: mu) ((a, tupO [.str x tx, .str y ty]) :: (L, oL) :: led) s')) 1 ?_ ?_ (.inl ⟨rfl, locC_sub S8 (.inr rfl) (.inr rfl) (.inr rfl) (.inr rfl) (.inr rfl) (.inr rfl) (.inr rfl)⟩)
    · intro j s9 hj hJ
      rcases hJ with ⟨rfl, S9⟩ | ⟨rfl, _⟩
      case inr => omega
      refine nx_str S9 (fun o' => .head) hso (ch := ch) rfl ?_
      intro so1 t10 s10 hso1 S10
      refine ⟨_, rfl, ?_⟩
      refine wpAny_assign_Name ?_
      refine r_store S10 (.tail (.tail (.tail .head))) ?_ (by kernel_rfl) (by kernel_rfl)
      intro s11 S11
      refine wpAny_execs_cons ?_
      refine wpAny_mono (Q := fun fl s' => (fl = .next ∧ ∃ (i : Nat) (ti : Tok), 1 ≤ i ∧ i ≤ ps.length ∧ cutB sp ch qs i = true ∧ (∀ j, i < j → j ≤ ps.length → cutB sp ch qs j = false) ∧ At (cx w base os mb) L' (locC f.F none none none (some (.int i ti)) none none none) ((f.acc, accO 212 f.dA (refsOf qs) (n + 1)) :: (f.dA, accD w t 0 u) :: (f.ln, W.listOf (strValues ls).toArray nl) :: mu) ((a, tupO [.str x tx, .str y ty]) :: (L, oL) :: led) s') ∨
        (fl = .cont ∧ (∀ j, 1 ≤ j → j ≤ ps.length → cutB sp ch qs j = false) ∧ At (cx w base os mb) L' (locC f.F none none none none none none none) ((sit, so1) :: (f.acc, accO 212 f.dA (refsOf qs) (n + 1)) :: (f.dA, accD w t 0 u) :: (f.ln, W.listOf (strValues ls).toArray nl) :: mu) ((a, tupO [.str x tx, .str y ty]) :: (L, oL) :: led) s')) (E := fun _ _ => False) ?_ ?_ (fun _ _ z => z.elim)
      · refine wpAny_For ?_
        refine Call_ ?_
        refine r_bi S11 (x := "range") (v := .type "range") (by kernel_rfl) (by kernel_rfl) (by decide) ?_ (by kernel_rfl) (by kernel_rfl) (by kernel_rfl) (by kernel_rfl) (by kernel_rfl)
        refine PyProof.Rows.callWith_type1 ?_
        refine args_cons ?_
        refine wpAny_BinOp ?_
        refine MethodCall_ ?_
        refine Attribute_name ?_
        refine r_local S11 (by walk_at "mem") ?_ (by kernel_rfl) (by kernel_rfl) (by kernel_rfl)
        refine r_fattr S11 (.tail _ (.tail _ hF)) (.tail _ (.tail _ hD)) vf_cur rfl ?_
        intro s12 S12
        refine r_am S12 (.tail _ (.head _)) (.tail _ (.tail _ (.head _))) ac_pc fn_pc (by kernel_rfl) ?_
        refine callWith_K0 S12.inK kp_pc ?_
        refine pc_spec S12 (.tail _ (.head _)) hA1 (by omega) ?_
        intro t13 s13 S13
        refine r_int S13 ?_
        intro t14 s14 S14
        refine r_sub S14 ?_
        intro t15 s15 S15
        have hP : (((refsOf qs).length : Int) - 1) = (ps.length : Int) := by simp [refsOf, e2]
        rw [hP]
        refine args_cons ?_
        refine r_int S15 ?_
        intro t16 s16 S16
        refine args_cons ?_
        refine wpAny_UnaryOp ?_
        refine r_int S16 ?_
        intro t17 s17 S17
        refine PyProof.Rows.neg_int ?_
        refine args_nil ?_
        refine r_range3 (S17.toks _) (by decide) (PyProof.noPylong_small (by omega)) ?_
        intro r18 s18 S18
        have hsz18 : Builtin.Range.rangeSize (ps.length : Int) 0 (-1) = (ps.length : Int) := by
          unfold Builtin.Range.rangeSize
          rw [if_neg (by decide), show (-(-1) : Int) = 1 by decide, Int.ediv_one]
          split <;> omega
        refine it_range S18 (.head _) (by
          unfold Builtin.Range.small Builtin.Range.rangeFitsLong
          rw [hsz18]
          simp
          omega) ?_
        intro it s19 S19
        rw [hsz18] at S19
        have S19' := S19.ledSub (led' := (a, tupO [.str x tx, .str y ty]) :: (L, oL) :: led) fun p hp => .tail _ hp
        refine r_for (J := fun j s' => (∀ i, ps.length - j < i → i ≤ ps.length → cutB sp ch qs i = false) ∧ At (cx w base os mb) L' (locC f.F none none (some (.str ⟨#[ch]⟩ t10)) none none none none) ((it, rngO ((ps.length : Int) - j) ((ps.length : Int) - j) (-1)) :: (sit, so1) :: (f.acc, accO 212 f.dA (refsOf qs) (n + 1)) :: (f.dA, accD w t 0 u) :: (f.ln, W.listOf (strValues ls).toArray nl) :: mu) ((a, tupO [.str x tx, .str y ty]) :: (L, oL) :: led) s') ps.length ?_ ?_
          ⟨fun i h1 h2 => by omega, by simpa using S19'⟩
        · intro j s20 hj hJ
          obtain ⟨hno, S20⟩ := hJ
          have ei : ((ps.length : Int) - j) = ((ps.length - j : Nat) : Int) := by omega
          have ei' : ((ps.length : Int) - j) + -1 = (ps.length : Int) - ((j + 1 : Nat) : Int) := by omega
          have ei'' : ((ps.length : Int) - j) - 1 = (ps.length : Int) - ((j + 1 : Nat) : Int) := by omega
          refine nx_range S20 .head (by omega) ?_
          intro t21 s21 S21
          rw [ei', ei''] at S21
          refine ⟨_, rfl, ?_⟩
          refine wpAny_assign_Name ?_
          refine r_store S21 (.tail (.tail (.tail (.tail .head)))) ?_ (by kernel_rfl) (by kernel_rfl)
          intro s22 S22
          rw [ei] at S22
          generalize hii : ps.length - j = i at *
          obtain ⟨q, hqi, hqm⟩ := hq i (by omega)
          obtain ⟨q', hqi', hqm'⟩ := hq (i - 1) (by omega)
          have hcut : cutB sp ch qs i = ((sp && startsB q.f ch) || endsB q'.p ch) := by unfold cutB; rw [hgD _ _ hqi, hgD _ _ hqi']
          have hqo := hqs q hqm
          have hqo' := hqs q' hqm'
          have hacc22 : ∀ {s'}, At (cx w base os mb) L' (locC f.F none none (some (.str ⟨#[ch]⟩ t10)) (some (.int i t21)) none none none) ((it, rngO ((ps.length : Int) - ((j + 1 : Nat) : Int)) ((ps.length : Int) - ((j + 1 : Nat) : Int)) (-1)) :: (sit, so1) :: (f.acc, accO 212 f.dA (refsOf qs) (n + 1)) :: (f.dA, accD w t 0 u) :: (f.ln, W.listOf (strValues ls).toArray nl) :: mu) ((a, tupO [.str x tx, .str y ty]) :: (L, oL) :: led) s' →
            ((cutB sp ch qs i = true → (∀ j, i < j → j ≤ ps.length → cutB sp ch qs j = false) → At (cx w base os mb) L' (locC f.F none none none (some (.int i t21)) none none none) ((f.acc, accO 212 f.dA (refsOf qs) (n + 1)) :: (f.dA, accD w t 0 u) :: (f.ln, W.listOf (strValues ls).toArray nl) :: mu) ((a, tupO [.str x tx, .str y ty]) :: (L, oL) :: led) s')) := fun S' _ _ => locC_sub S'.muTail.muTail (.inl rfl) (.inl rfl) (.inr rfl) (.inl rfl) (.inl rfl) (.inl rfl) (.inl rfl)
          have hnc : ∀ j, i < j → j ≤ ps.length → cutB sp ch qs j = false := hno
          -- the second half of a turn
          refine wpAny_execs_cons ?_
          refine wpAny_mono (Q := fun fl s' => (fl = .brk ∧ cutB sp ch qs i = true ∧ At (cx w base os mb) L' (locC f.F none none (some (.str ⟨#[ch]⟩ t10)) (some (.int i t21)) none none none) ((it, rngO ((ps.length : Int) - ((j + 1 : Nat) : Int)) ((ps.length : Int) - ((j + 1 : Nat) : Int)) (-1)) :: (sit, so1) :: (f.acc, accO 212 f.dA (refsOf qs) (n + 1)) :: (f.dA, accD w t 0 u) :: (f.ln, W.listOf (strValues ls).toArray nl) :: mu) ((a, tupO [.str x tx, .str y ty]) :: (L, oL) :: led) s') ∨
            (fl = .next ∧ (sp && startsB q.f ch) = false ∧ At (cx w base os mb) L' (locC f.F none none (some (.str ⟨#[ch]⟩ t10)) (some (.int i t21)) none none none) ((it, rngO ((ps.length : Int) - ((j + 1 : Nat) : Int)) ((ps.length : Int) - ((j + 1 : Nat) : Int)) (-1)) :: (sit, so1) :: (f.acc, accO 212 f.dA (refsOf qs) (n + 1)) :: (f.dA, accD w t 0 u) :: (f.ln, W.listOf (strValues ls).toArray nl) :: mu) ((a, tupO [.str x tx, .str y ty]) :: (L, oL) :: led) s')) (E := fun _ _ => False) ?_ ?_ (fun _ _ z => z.elim)
          · refine wpAny_If ?_
            refine isTrue_plain ?_
            refine MethodCall_ ?_
            refine r_local S22 (by walk_at "mem") ?_ (by kernel_rfl) (by kernel_rfl) (by kernel_rfl)
            refine GM.isspace ?_
            refine Calls.callWith_builtin rfl (PySem.evalArgs_none ?_)
            refine call_gives F.slot_str_isspace (typeIs_str _ _ _) F.entry_str_isspace (F.args_str_isspace_1 _) (gives_str_isspace _ _) ?_
            show wpAny _ _ (truthy (.bool (Txt.isspace ⟨#[ch]⟩))) _ _ _
            rw [hsp]
            refine wpAny_truthy_bool ?_
            cases sp with
            | false =>
              refine wpAny_execs_nil ?_
              exact .inr ⟨rfl, rfl, S22⟩
            | true =>
              refine wpAny_execs_cons ?_
              refine wpAny_Assign_Name ?_
              refine Subscript_ ?_
              refine Subscript_ ?_
              refine Attribute_name ?_
              refine r_local S22 (by walk_at "mem") ?_ (by kernel_rfl) (by kernel_rfl) (by kernel_rfl)
              refine r_fattr S22 (.tail _ (.tail _ hF)) (.tail _ (.tail _ hD)) vf_cur rfl ?_
              intro s23 S23
              refine r_local S23 (by walk_at "mem") ?_ (by kernel_rfl) (by kernel_rfl) (by kernel_rfl)
              have hacc23 : s23.heap.get? f.acc = some (accO 212 f.dA (refsOf qs) (n + 1)) := S23.muGet (.tail _ (.tail _ (.head _)))
              refine LL.tail S23.inK (LL.sub S23 ac_subok hacc23 rfl) (by with_unfolding_all rfl) ?_
              refine r_item S23 (LL.sub S23 ac_subok hacc23 rfl) hacc23 rfl (by omega) (by omega) (v := .ref q.a) (by simpa using hrf i q hqi) ?_
              refine r_int S23 ?_
              intro t24 s24 S24
              refine r_itemT S24 (l := [.str q.f q.t, .str q.p q.u]) (j := 0) (x := .str q.f q.t) hqo (by decide) (by decide) (by rfl) (by rfl) (by with_unfolding_all rfl) ?_
              refine r_store S24 (.tail .head) ?_ (by kernel_rfl) (by kernel_rfl)
              intro s25 S25
              refine wpAny_execs_cons ?_
              refine wpAny_If ?_
              refine r_first S25 (v := q.f) (tv := q.t) (ch := ch) (tc := t10) (.tail _ (.head _)) (.tail _ (.tail _ (.tail _ (.head _)))) (by kernel_rfl) (by kernel_rfl) (by kernel_rfl) (by kernel_rfl) (by kernel_rfl) (by have := (hsz' q hqm).1; omega) ?_
              intro s26 S26
              cases hst : startsB q.f ch with
              | true =>
                refine wpAny_execs_cons (wpAny_Break ?_)
                exact .inl ⟨rfl, by rw [hcut, hst]; rfl, locC_sub S26 (.inr rfl) (.inl rfl) (.inl rfl) (.inl rfl) (.inl rfl) (.inl rfl) (.inl rfl)⟩
              | false =>
                refine wpAny_execs_nil ?_
                refine wpAny_execs_nil ?_
                exact .inr ⟨rfl, rfl, locC_sub S26 (.inr rfl) (.inl rfl) (.inl rfl) (.inl rfl) (.inl rfl) (.inl rfl) (.inl rfl)⟩
          · intro fl s23 hfl
            rcases hfl with ⟨rfl, hc, S23⟩ | ⟨rfl, hns, S23⟩
            · exact .inl ⟨rfl, i, t21, by omega, by omega, hc, hnc, hacc22 S23 hc hnc⟩
            · refine wpAny_execs_cons ?_
              refine wpAny_Assign_Name ?_
              refine Subscript_ ?_
              refine Subscript_ ?_
              refine Attribute_name ?_
              refine r_local S23 (by walk_at "mem") ?_ (by kernel_rfl) (by kernel_rfl) (by kernel_rfl)
              refine r_fattr S23 (.tail _ (.tail _ hF)) (.tail _ (.tail _ hD)) vf_cur rfl ?_
              intro s24 S24
              refine wpAny_BinOp ?_
              refine r_local S24 (by walk_at "mem") ?_ (by kernel_rfl) (by kernel_rfl) (by kernel_rfl)
              refine r_int S24 ?_
              intro t25 s25 S25
              refine r_sub S25 ?_
              intro t26 s26 S26
              have hacc26 : s26.heap.get? f.acc = some (accO 212 f.dA (refsOf qs) (n + 1)) := S26.muGet (.tail _ (.tail _ (.head _)))
              have ei3 : ((i : Int) - 1).toNat = i - 1 := by omega
              refine LL.tail S26.inK (LL.sub S26 ac_subok hacc26 rfl) (by with_unfolding_all rfl) ?_
              refine r_item S26 (LL.sub S26 ac_subok hacc26 rfl) hacc26 rfl (by omega) (by omega) (v := .ref q'.a) (by rw [ei3]; exact hrf _ q' hqi') ?_
              refine r_int S26 ?_
              intro t27 s27 S27
              refine r_itemT S27 (l := [.str q'.f q'.t, .str q'.p q'.u]) (j := 1) (x := .str q'.p q'.u) hqo' (by decide) (by decide) (by rfl) (by rfl) (by with_unfolding_all rfl) ?_
              refine r_store S27 (.tail (.tail (.tail (.tail (.tail .head))))) ?_ (by kernel_rfl) (by kernel_rfl)
              intro s28 S28
              refine wpAny_execs_cons ?_
              refine wpAny_If ?_
              refine r_lastT S28 (v := q'.p) (tv := q'.u) (ch := ch) (tc := t10) (.tail _ (.tail _ (.tail _ (.tail _ (.tail _ (.head _)))))) (.tail _ (.tail _ (.tail _ (.head _)))) (by kernel_rfl) (by kernel_rfl) (by kernel_rfl) (by kernel_rfl) (by kernel_rfl) (by have := (hsz' q' hqm').2; omega) ?_
              intro s29 S29
              have S29' := locC_sub (fw' := none) (st' := none) (ch' := some (.str ⟨#[ch]⟩ t10)) (i' := some (.int i t21)) (pp' := none) (pa' := none) (re' := none) S29 (.inl rfl) (.inl rfl) (.inl rfl) (.inl rfl) (.inr rfl) (.inl rfl) (.inl rfl)
              cases hen : endsB q'.p ch with
              | true =>
                refine wpAny_execs_cons (wpAny_Break ?_)
                have hc : cutB sp ch qs i = true := by rw [hcut, hen, Bool.or_true]
                exact .inl ⟨rfl, i, t21, by omega, by omega, hc, hnc, hacc22 S29' hc hnc⟩
              | false =>
                refine wpAny_execs_nil ?_
                refine wpAny_execs_nil ?_
                have hc : cutB sp ch qs i = false := by rw [hcut, hen, hns]; rfl
                refine ⟨fun k h1 h2 => ?_, locC_sub S29' (.inl rfl) (.inl rfl) (.inl rfl) (.inr rfl) (.inl rfl) (.inl rfl) (.inl rfl)⟩
                by_cases hki : k = i
                · rw [hki]; exact hc
                · exact hnc k (by omega) h2
        · intro s20 hJ
          obtain ⟨hno, S20⟩ := hJ
          have hne : it ∉ ((sit, so1) :: (f.acc, accO 212 f.dA (refsOf qs) (n + 1)) :: (f.dA, accD w t 0 u) :: (f.ln, W.listOf (strValues ls).toArray nl) :: mu).map (·.1) := (List.nodup_cons.mp S20.nod).1
          refine nx_rangeEnd S20 (.head _) (List.sublist_cons_self _ _) hne hA1.handled (by omega) ?_
          intro s21 S21
          refine ⟨rfl, wpAny_execs_cons (wpAny_Continue ?_)⟩
          exact .inr ⟨rfl, fun j h1 h2 => hno j (by omega) h2, locC_sub S21 (.inr rfl) (.inr rfl) (.inr rfl) (.inr rfl) (.inr rfl) (.inr rfl) (.inr rfl)⟩
      · intro fl s12 hfl
        rcases hfl with ⟨rfl, hc⟩ | ⟨rfl, hno, S12⟩
        · refine wpAny_execs_cons (wpAny_Break ?_)
          exact .inl ⟨rfl, hc⟩
        · exact .inr ⟨rfl, hno, so1, hso1, S12⟩
    · intro s9 hJ
      rcases hJ with ⟨h0, _⟩ | ⟨_, hno, so', hso', S9⟩
      · cases h0
      have hne : sit ∉ ((f.acc, accO 212 f.dA (refsOf qs) (n + 1)) :: (f.dA, accD w t 0 u) :: (f.ln, W.listOf (strValues ls).toArray nl) :: mu).map (·.1) := (List.nodup_cons.mp S9.nod).1
      refine nx_strEnd S9 (.head _) hso' (List.sublist_cons_self _ _) hne rfl hA1.handled ?_
      intro s10 S10
      refine ⟨rfl, ?_⟩
      rw [← hqq, refsOf_snoc] at S10
      refine wpAny_execs_cons ?_
      refine Assign_Tuple ?_
      refine MethodCall_ ?_
      refine Attribute_name ?_
      refine r_local S10 (by walk_at "mem") ?_ (by kernel_rfl) (by kernel_rfl) (by kernel_rfl)
      refine r_fattr S10 (.tail _ (.tail _ hF)) (.tail _ (.tail _ hD)) vf_cur rfl ?_
      intro s11 S11
      refine r_am S11 (.head _) (.tail _ (.head _)) ac_pop fn_pop (by kernel_rfl) ?_
      refine callWith_K0 S11.inK kp_pop ?_
      refine pop_last S11 .head (.tail _ (.head _)) (by simp [refsOf]; omega) hA1 (by omega) ?_
      intro s12 S12
      refine assign_Tuple_tuple (items := #[.str x tx, .str y ty]) hA1.handled ⟨_, S12.ledGet (.head _), rfl, _, rfl⟩ (by rfl) (by rfl) ?_
      intro h13 hx13
      have S13 : At (cx w base os mb) L' (locC f.F none none none none none none none) ((f.acc, accO 212 f.dA (refsOf ps) (n + 1 + 1)) :: (f.dA, accD w t 0 u) :: (f.ln, W.listOf (strValues ls).toArray nl) :: mu) ((a, tupO [.str x tx, .str y ty]) :: (L, oL) :: led) { s12 with heap := h13 } :=
        S12.ext (fun b o e => hx13 b o (Nat.ne_of_lt (Heap.lt_size e)) e) S12.gens rfl
      refine wpAny_assignInOrder_more ?_
      refine wpAny_assign_Name ?_
      refine r_store S13 (.tail .head) ?_ (by kernel_rfl) (by kernel_rfl)
      intro s14 S14
      refine wpAny_assignInOrder_more ?_
      refine wpAny_assign_Name ?_
      refine r_store S14 (.tail (.tail (.tail (.tail (.tail (.tail .head)))))) ?_ (by kernel_rfl) (by kernel_rfl)
      intro s15 S15
      refine wpAny_assignInOrder_none ?_
      refine wpAny_execs_cons ?_
      refine wpAny_If ?_
      refine wpAny_isTrue_Compare1 ?_
      refine Attribute_any_ ?_
      refine Attribute_name ?_
      refine r_local S15 (by walk_at "mem") ?_ (by kernel_rfl) (by kernel_rfl) (by kernel_rfl)
      refine r_fattr S15 (.tail _ (.tail _ hF)) (.tail _ (.tail _ hD)) vf_cur rfl ?_
      intro s16 S16
      refine r_attrA S16 (S16.muGet (.head _)) rfl (S16.muGet (.tail _ (.head _))) ac_ga ac_ng ac_mro ac_init (by kernel_rfl) ?_
      intro s17 S17
      refine r_int S17 ?_
      intro t18 s18 S18
      refine gt_int ?_
      refine wpAny_truthy_bool ?_
      refine wpAny_execs_nil ?_
      refine wpAny_execs_cons ?_
      refine wpAny_Expr ?_ (by kernel_rfl) (by kernel_rfl)
      refine MethodCall_ ?_
      refine Attribute_name ?_
      refine r_local S18 (by walk_at "mem") ?_ (by kernel_rfl) (by kernel_rfl) (by kernel_rfl)
      refine r_fattr S18 (.tail _ (.tail _ hF)) (.tail _ (.tail _ hD)) vf_cur rfl ?_
      intro s19 S19
      refine r_am S19 (.head _) (.tail _ (.head _)) ac_push fn_push (by kernel_rfl) ?_
      refine callWith_K S19.inK kp_push ?_
      refine args_cons ?_
      refine r_local S19 (by walk_at "mem") ?_ (by kernel_rfl) (by kernel_rfl) (by kernel_rfl)
      refine args_cons ?_
      refine r_local S19 (by walk_at "mem") ?_ (by kernel_rfl) (by kernel_rfl) (by kernel_rfl)
      refine args_nil ?_
      refine ⟨S19.inK, ?_⟩
      refine push_spec S19 (fun a => .head) (.tail _ (.head _)) hA1 (by omega) (by simp [refsOf]; omega) ?_
      intro a20 s20 S20
      refine wpAny_execs_cons ?_
      refine wpAny_Return_none ?_
      have e20 : refsOf ps ++ [.ref a20] = refsOf (ps ++ [mkP a20 x y tx ty]) := (refsOf_snoc ps (mkP a20 x y tx ty)).symm
      rw [e20] at S20
      have S21 := S20.ledSub (led' := (a20, tupO [.str x tx, .str y ty]) :: (L, oL) :: led) (mem_all_cons (.head _) fun p hp => .tail _ (.tail _ hp))
      exact .inr ⟨rfl, hno, a20, _, locC_sub S21 (.inr rfl) (.inr rfl) (.inr rfl) (.inr rfl) (.inr rfl) (.inr rfl) (.inr rfl)⟩
  · intro fl s12 hfl
    rcases hfl with ⟨rfl, i, ti, hi1, hi2, hcut, hnc, S12⟩ | ⟨rfl, hno, a', n', S12⟩
    · have hlr : (refsOf qs).length = ps.length + 1 := by simp [refsOf, e2]
      refine wpAny_execs_cons ?_
      refine wpAny_Assign_Name ?_
      refine MethodCall_ ?_
      refine Attribute_name ?_
      refine r_local S12 (by walk_at "mem") ?_ (by kernel_rfl) (by kernel_rfl) (by kernel_rfl)
      refine r_fattr S12 (.tail _ (.tail _ hF)) (.tail _ (.tail _ hD)) vf_cur rfl ?_
      intro s13 S13
      refine r_am S13 (.head _) (.tail _ (.head _)) ac_popf fn_popf (by kernel_rfl) ?_
      refine callWith_K S13.inK kp_popf ?_
      refine args_cons ?_
      refine r_local S13 (by walk_at "mem") ?_ (by kernel_rfl) (by kernel_rfl) (by kernel_rfl)
      refine args_nil ?_
      refine ⟨S13.inK, ?_⟩
      refine popf_spec S13 (fun n' => .head) (by omega) (by omega) hA1 (by omega) ?_
      intro b n14 s14 S14
      have et : (refsOf qs).take i = refsOf (qs.take i) := by simp [refsOf]
      have ed : (refsOf qs).drop i = refsOf (qs.drop i) := by simp [refsOf]
      rw [et, ed] at S14
      refine r_store S14 (.tail (.tail (.tail (.tail (.tail (.tail (.tail .head))))))) ?_ (by kernel_rfl) (by kernel_rfl)
      intro s15 S15
      have hsub : ∀ p ∈ qs.take i, p ∈ qs := fun p hp => List.mem_of_mem_take hp
      have hle : lenOf (qs.take i) ≤ lenOf qs := by
        have : lenOf qs = lenOf (qs.take i) + lenOf (qs.drop i) := by
          rw [← lenOf_append, List.take_append_drop]
        omega
      refine wpAny_execs_cons ?_
      refine wpAny_Expr ?_ (by kernel_rfl) (by kernel_rfl)
      refine MethodCall_ ?_
      refine Attribute_name ?_
      refine r_local S15 (by walk_at "mem") ?_ (by kernel_rfl) (by kernel_rfl) (by kernel_rfl)
      refine r_fattr S15 (.tail _ (.tail _ hF)) (.tail _ (.tail _ hD)) vf_lines rfl ?_
      intro s16 S16
      refine r_methL S16 (S16.muGet (.tail _ (.tail _ (.tail _ (.head _))))) rfl rfl li_append li_appendT ?_
      refine callWith_method1 ?_
      refine args_cons ?_
      refine Call_ ?_
      refine r_bi S16 (x := "str") (v := .type "str") (by kernel_rfl) (by kernel_rfl) (by decide) ?_ (by kernel_rfl) (by kernel_rfl) (by kernel_rfl) (by kernel_rfl) (by kernel_rfl)
      refine PyProof.Rows.callWith_type1 ?_
      refine args_cons ?_
      refine Attribute_name ?_
      refine r_local S16 (by walk_at "mem") ?_ (by kernel_rfl) (by kernel_rfl) (by kernel_rfl)
      refine r_fattr S16 (.tail _ (.tail _ hF)) (.tail _ (.tail _ hD)) vf_cur rfl ?_
      intro s17 S17
      refine args_nil ?_
      refine r_strAcc S17 (.tail _ (.head _)) (.tail _ (.tail _ (.head _))) (fun p hp => hqs p (hsub p hp)) (fun p hp => hsz' p (hsub p hp)) (by omega) (by simp; omega) hA1 (by omega) ?_
      intro t18 s18 S18
      refine args_nil ?_
      refine r_appendL S18 (.tail (.tail (.tail .head))) (by simp [strValues]; omega) ?_
      intro s19 S19
      refine wpAny_execs_cons ?_
      refine wpAny_Expr ?_ (by kernel_rfl) (by kernel_rfl)
      refine MethodCall_ ?_
      refine Attribute_name ?_
      refine r_local S19 (by walk_at "mem") ?_ (by kernel_rfl) (by kernel_rfl) (by kernel_rfl)
      refine r_fattr S19 (.tail _ (.tail _ hF)) (.tail _ (.tail _ hD)) vf_cur rfl ?_
      intro s20 S20
      refine r_am S20 (.tail _ (.head _)) (.tail _ (.tail _ (.head _))) ac_reset fn_reset (by kernel_rfl) ?_
      refine callWith_K S20.inK kp_reset ?_
      refine args_cons ?_
      refine r_local S20 (by walk_at "mem") ?_ (by kernel_rfl) (by kernel_rfl) (by kernel_rfl)
      refine args_nil ?_
      refine ⟨S20.inK, ?_⟩
      refine reset_to S20 (by simp [refsOf]; omega) (by simp [refsOf]; omega) hA1 (by omega) ?_
      intro n21 u21 s21 S21
      refine wpAny_execs_nil ?_
      refine wpAny_execs_nil ?_
      rw [← strValues_snoc, ← hqq] at S21
      exact h2 hgt a i n21 u21 t18 s21 hi1 hi2 (by rw [hqq]; exact hcut) (by rw [hqq]; exact hnc) (hb.ret S S21 (by walk_at "mem") (mem_all_cons ⟨.head _, .inr rfl⟩ fun p hp => ⟨.tail _ (.tail _ hp), .inl hp⟩))
    · exact h3 hgt a' n' s12 (by intro j h1 h2; rw [cutB_addr sp ch ps a' a]; rw [hqq]; exact hno j h1 h2) (hb.ret S S12 (by walk_at "mem") (mem_all_cons ⟨.head _, .inr rfl⟩ fun p hp => ⟨.tail _ (.tail _ hp), .inl hp⟩))
end
/- FmG02 -/
set_option autoImplicit false
section
variable {w : World} {base : Heap} {os : OsState} {mb : Str → Option Value} {L : Addr} {m : Loc} {mu led : List (Addr × Obj)} {s : Shared} {A : Around} {E : Value → Shared → Prop} {Q : Value → Shared → Prop} {d : Nat}
set_option maxHeartbeats 2000000
theorem vf_newline : findIn (KF w) (.ref 128) "newline" = some (some (.ref 90)) := by kernel_rfl
theorem vf_ng : findIn (KF w) (.ref 128) "__getattr__" = some none := by kernel_rfl
theorem vf_can : (Manifest.canonical "object.__getattribute__" != "object.__getattribute__") = false := by kernel_rfl
theorem fn_newline : typeIn (KF w) (.ref 90) = some (.type "function") := by kernel_rfl
theorem kp_newline : keepIn (KF w) (.ref 90) = true := by kernel_rfl
/-- a method of the formatter -/
theorem r_fm {f : Fmt} {g : Addr} {name : Str} {pl : Sem Bool} {Q : Value × List Value → Shared → Prop} (S : At (cx w base os mb) L m mu led s) (hF : (f.F, f.obj 128) ∈ led) (hD : (f.dF, f.dict w) ∈ led)
    (hf : findIn (KF w) (.ref 128) name = some (some (.ref g))) (ht : typeIn (KF w) (.ref g) = some (.type "function")) (hno : lookIn name (f.dict w) = some none) (h : Q (.ref g, [.ref f.F]) s) : wpAny (cx w base os mb).M A (getMethod (.ref f.F) name pl) Q E s :=
  r_meth S (t := .ref 128) (f := .ref g) (tf := "function") (ga := "object.__getattribute__") (looks_ref (S.ledGet hF) rfl) vf_ga vf_can vf_ng hf ht (by decide) ⟨_, S.ledGet hF, .inr ⟨_, _, rfl, S.ledGet hD, hno⟩⟩ h
theorem strs_are (ls : List (Str × Tok)) : StrsAre (strValues ls) (ls.map (·.1)) := by
  induction ls with
  | nil => exact .nil
  | cons p r ih => exact .cons p.1 p.2 ih
theorem vstr_spec {f : Fmt} {ps : List Part} {q : Part} {n nl : Nat} {t u ts : Tok} {k : Int} {ls : List (Str × Tok)} {sep : Str}
    (S : At (cx w base os mb) L m ((f.acc, accO 212 f.dA (refsOf (ps ++ [q])) n) :: (f.dA, accD w t k u) :: (f.ln, W.listOf (strValues ls).toArray nl) :: mu) led s)
    (hF : (f.F, f.obj 128) ∈ led) (hD : (f.dF, f.dict w) ∈ led) (hps : PartsIn led (ps ++ [q])) (hsz : Small (ps ++ [q])) (hk : 0 ≤ k) (hkl : k ≤ 1000000) (hlen : lenOf (ps ++ [q]) ≤ 1000000) (hcnt : ps.length ≤ 10000) (hls : ls.length ≤ 10000)
    (hq : (q.f == (" " : Str) && q.p == ("" : Str)) = false) (hof : PyData.strOk q.f = true) (hop : PyData.strOk q.p = true) (hpos : 0 < k + lenOf (ps ++ [q])) (hws : 0 < k ∨ (k = 0 ∧ Txt.isspace (textOf (ps ++ [q])) = false))
    (hjoin : (((ls.map (·.1)) ++ [textOf (ps ++ [q])]).map (·.length)).sum + (ls.length + 1) * sep.length ≤ 16777216) (hA : AOk A d) (hd : d ≤ 430)
    (h : ∀ n' u' t' tr s', At (cx w base os mb) L m ((f.acc, accO 212 f.dA [] n') :: (f.dA, accD w t 0 u') :: (f.ln, W.listOf (strValues (ls ++ [(textOf (ps ++ [q]), t')])).toArray (nl + 1)) :: mu) led s' → Q (.str (Str.join sep (ls.map (·.1) ++ [textOf (ps ++ [q])])) tr) s') :
    wpAny (cx w base os mb).M A (call (.ref 76) [.ref f.F, .str sep ts]) Q E s := by
  refine r_def S hA ?a1 (f := 76) (fd := fdA w 76) ?a2 ?a3 (by rfl) (BindsTo.of_eq (binds := [("self", .ref f.F), ("linesep", .str sep ts)]) ?a4) ?a5 ?a6 [("self", some (.ref f.F)), ("linesep", some (.str sep ts))] ?a7 ?a8 ?a9 ?a10 ?a11 ?_
  walk_at "sides"
  intro L' oL s1 S1 hb hA1
  refine wpAny_execs_cons ?_
  refine wpAny_Expr ?_ (by kernel_rfl) (by kernel_rfl)
  refine MethodCall_ ?_
  refine r_local S1 (by walk_at "mem") ?_ (by kernel_rfl) (by kernel_rfl) (by kernel_rfl)
  refine r_fm S1 (.tail _ hF) (.tail _ hD) vf_newline fn_newline (by kernel_rfl) ?_
  refine callWith_K0 S1.inK kp_newline ?_
  refine newline_spec S1 (.tail _ hF) (.tail _ hD) (fun p hp => .tail _ (hps p hp)) hsz hk hkl hlen hcnt hls hq hof hop hpos hws hA1 (by omega) ?_
  intro n2 u2 t2 s2 S2
  refine wpAny_execs_cons ?_
  refine wpAny_Return_some ?_
  refine MethodCall_ ?_
  refine r_local S2 (by walk_at "mem") ?_ (by kernel_rfl) (by kernel_rfl) (by kernel_rfl)
  refine GM.join ?_
  refine callWith_method1 ?_
  refine args_cons ?_
  refine Attribute_name ?_
  refine r_local S2 (by walk_at "mem") ?_ (by kernel_rfl) (by kernel_rfl) (by kernel_rfl)
  refine r_fattr S2 (.tail _ hF) (.tail _ hD) vf_lines rfl ?_
  intro s3 S3
  refine args_nil ?_
  refine join_list (items := (strValues (ls ++ [(textOf (ps ++ [q]), t2)])).toArray) (ys := (ls ++ [(textOf (ps ++ [q]), t2)]).map (·.1)) ⟨_, S3.muGet (.tail _ (.tail _ (.head _))), rfl, _, rfl⟩ (by exact strs_are _) (by simpa using hjoin) fun t' k' => ?_
  have e : Txt.join sep ((ls ++ [(textOf (ps ++ [q]), t2)]).map (·.1)) = Str.join sep (ls.map (·.1) ++ [textOf (ps ++ [q])]) := by
    rw [show Txt.join sep ((ls ++ [(textOf (ps ++ [q]), t2)]).map (·.1)) = Str.join sep ((ls ++ [(textOf (ps ++ [q]), t2)]).map (·.1)) from StrLaws.glued_eq_join _ _]
    simp
  rw [e]
  exact h n2 u2 t2 t' _ (hb.ret S (S3.toks k') (by walk_at "mem") fun p hp => ⟨.tail _ hp, .inl hp⟩)
end
/- FmH02 -/
set_option autoImplicit false
section
variable {w : World} {base : Heap} {os : OsState} {mb : Str → Option Value} {L : Addr} {m : Loc} {mu led : List (Addr × Obj)} {s : Shared} {A : Around} {E : Value → Shared → Prop} {Q : Value → Shared → Prop} {d : Nat}
set_option maxHeartbeats 2000000
theorem ac_makes : makesL (KF w) 212 = true := by kernel_rfl
theorem ac_initf : findIn (KF w) (.ref 212) "__init__" = some (some (.ref 149)) := by kernel_rfl
theorem fn_ainit : typeIn (KF w) (.ref 149) = some (.type "function") := by kernel_rfl
theorem ainit_code {R : Result → Shared → Prop} {x dx : Addr} {k : Int} {tk : Tok} (S : At (cx w base os mb) L m ((x, accO 212 dx [] 0) :: (dx, dictOf [] 0) :: mu) led s) (hA : AOk A d) (hd : d ≤ 460)
    (h : ∀ t n' s', At (cx w base os mb) L m ((x, accO 212 dx [] n') :: (dx, accD w t k tk) :: mu) led s' → R (.ok (.ret .none)) s') :
    codeAny (cx w base os mb).M A (.call (.ref 149) ⟨[.ref x, .int k tk], []⟩) R s := by
  refine r_defAt0 S hA ?a1 (f := 149) (fd := fdA w 149) ?a2 ?a3 (by rfl) (BindsTo.of_defaults (T := 141) (binds := [("self", .ref x), ("initial_size", .int k tk)]) ?a4 (S.top (a := 141) (by rfl)) (by rfl) (by rfl) (by kernel_rfl)) ?a5 ?a6 [("self", some (.ref x)), ("initial_size", some (.int k tk))] ?a7 ?a8 ?a9 ?a10 ?a11 ?_
  walk_at "sides"
  intro L' oL s1 S1 hb hA1
  refine ks_wpAt_execs_cons ?_
  refine wpAt_of_wpAny ?_
  refine plainObj_wpAny_Assign_Attribute ?_
  refine r_local S1 (by walk_at "mem") ?_ (by kernel_rfl) (by kernel_rfl) (by kernel_rfl)
  refine r_local S1 (by walk_at "mem") ?_ (by kernel_rfl) (by kernel_rfl) (by kernel_rfl)
  refine r_setattr (mu' := fun t => (x, accO 212 dx [] 0) :: (dx, accD w t k tk) :: mu) S1 (S1.muGet (by walk_at "mem")) rfl ac_seta ac_cd ac_mro2 ac_ref ac_hd ac_tk (by rfl) (Nat.le_of_ble_eq_true (by kernel_rfl)) (fun t' => .tail .head) ?_
  intro t2 s2 S2
  refine ks_wpAt_execs_cons ?_
  refine ks_wpAt_Expr_any ?_ (by kernel_rfl) (by kernel_rfl)
  refine ks_wpAt_MethodCall ?_
  refine r_super (f := 149) (cc := 148) (cl := 136) (C := 212) (D := 212) (fd := fdA w 149) (ar := ((fdA w 149).params.args.headD default)) S2 (.head _) (by exact List.mem_cons_self) (by kernel_rfl) (by kernel_rfl) (by kernel_rfl) (by kernel_rfl) (by rfl) (by rfl) (by rfl) (by kernel_rfl) (by kernel_rfl) g_cell ac_cd ac_sub g_super (by kernel_rfl) (by kernel_rfl) (by kernel_rfl) (by kernel_rfl) (by kernel_rfl) (by kernel_rfl) (by kernel_rfl) (by kernel_rfl) g_boot ?_
  intro so s3 S3
  refine r_superCall S3 (.head _) (.head _) g_third ac_cd ac_sinit (ac_ne S (.head _) ac_lk) ty_linit slot_wd entry_wd (args_wd _ _ _) (by kernel_rfl) ac_mro (fun s A' P E' hI q => run_wd own_init hI q) (.inl rfl) (fun s' _ A' P E' q => wpAny_of_eq (ck_linit _) q) (Code.quiet_builtin _ (by decide +kernel)) en_linit ?_
  intro s4 S4
  refine b_init S4 (fun n' => .head) ?_
  intro n5 s5 S5
  refine ⟨_, rfl, ?_⟩
  refine wpAt_of_wpAny (wpAny_execs_nil ?_)
  exact h t2 n5 s5 (hb.ret S S5 (by walk_at "mem") fun p hp => ⟨.tail _ (.tail _ hp), .inl hp⟩)
theorem r_newAcc {k : Int} {tk : Tok} (S : At (cx w base os mb) L m mu led s) (hA : AOk A d) (hd : d ≤ 450)
    (h : ∀ x dx t n' s', At (cx w base os mb) L m ((x, accO 212 dx [] n') :: (dx, accD w t k tk) :: mu) led s' → Q (.ref x) s') :
    wpAny (cx w base os mb).M A (call (.ref 212) [.int k tk]) Q E s := by
  refine wpAny_call (r_makeL S ac_makes ac_initf fn_ainit ?_)
  intro x dx s1 S1
  refine ainit_code S1 (hA.under _ _) (by omega) ?_
  intro t n' s2 S2
  exact ⟨rfl, h x dx t n' s2 S2⟩
end
/- FmI02 -/
set_option autoImplicit false
section
variable {w : World} {base : Heap} {os : OsState} {mb : Str → Option Value} {L : Addr} {m : Loc} {mu led : List (Addr × Obj)} {s : Shared} {A : Around} {E : Value → Shared → Prop} {Q : Value → Shared → Prop} {d : Nat}
set_option maxHeartbeats 2000000
abbrev ent (w : World) (n : Str) (t : Tok) (v : Value) : DictEntry := ⟨PyData.keyHash w.params n, .str n t, v⟩
noncomputable def vfCd (w : World) : ClassData := (clsIn (KF w) 128).getD default
theorem vf_cd : clsIn (KF w) 128 = some (vfCd w) := by kernel_rfl
theorem vf_seta : findIn (KF w) (.ref 128) "__setattr__" = some (some (.builtin "object.__setattr__")) := by kernel_rfl
theorem vf_mro2 : (!(vfCd w).mro.isEmpty && (vfCd w).mro.contains (.type "object")) = true := by kernel_rfl
theorem vf_ref {x : Addr} : refuseLoop (.ref x) "__setattr__" (vfCd w).mro = pure () := by kernel_rfl
theorem vf_hd : (vfCd w).hasDict = true := by kernel_rfl
theorem vf_makes : makesIn (KF w) 128 = true := by kernel_rfl
theorem vf_initf : findIn (KF w) (.ref 128) "__init__" = some (some (.ref 69)) := by kernel_rfl
theorem fn_vinit : typeIn (KF w) (.ref 69) = some (.type "function") := by kernel_rfl
theorem kp_acc : keepIn (KF w) (.ref 212) = true := by kernel_rfl
theorem kp_vf : keepIn (KF w) (.ref 128) = true := by kernel_rfl
theorem g_acc : nsIn (KF w) mainGlobals "_Accumulator" = some (some (.ref 212)) := by kernel_rfl
theorem vf_tk0 : takerIn (KF w) 128 "_maxlen" = some none := by kernel_rfl
theorem vf_tk1 : takerIn (KF w) 128 "_continuation_ws" = some none := by kernel_rfl
theorem vf_tk2 : takerIn (KF w) 128 "_continuation_ws_len" = some none := by kernel_rfl
theorem vf_tk3 : takerIn (KF w) 128 "_splitchars" = some none := by kernel_rfl
theorem vf_tk4 : takerIn (KF w) 128 "_lines" = some none := by kernel_rfl
theorem vf_tk5 : takerIn (KF w) 128 "_current_line" = some none := by kernel_rfl
theorem put0 {v : Value} {t : Tok} : putL "_maxlen" (PyData.keyHash w.params "_maxlen") (.str "_maxlen" t) v [] = [ent w "_maxlen" t v] := by kernel_rfl
theorem pn0 : putN "_maxlen" [] 0 = 1 := by kernel_rfl
theorem gl0 : (getL "_maxlen" []).isSome = true := by kernel_rfl
theorem put1 {v0 : Value} {t0 : Tok} {v : Value} {t : Tok} : putL "_continuation_ws" (PyData.keyHash w.params "_continuation_ws") (.str "_continuation_ws" t) v [ent w "_maxlen" t0 v0] = [ent w "_maxlen" t0 v0, ent w "_continuation_ws" t v] := by kernel_rfl
theorem pn1 {v0 : Value} {t0 : Tok} : putN "_continuation_ws" [ent w "_maxlen" t0 v0] 1 = 2 := by kernel_rfl
theorem gl1 {v0 : Value} {t0 : Tok} : (getL "_continuation_ws" [ent w "_maxlen" t0 v0]).isSome = true := by kernel_rfl
theorem put2 {v0 v1 : Value} {t0 t1 : Tok} {v : Value} {t : Tok} : putL "_continuation_ws_len" (PyData.keyHash w.params "_continuation_ws_len") (.str "_continuation_ws_len" t) v [ent w "_maxlen" t0 v0, ent w "_continuation_ws" t1 v1] = [ent w "_maxlen" t0 v0, ent w "_continuation_ws" t1 v1, ent w "_continuation_ws_len" t v] := by kernel_rfl
theorem pn2 {v0 v1 : Value} {t0 t1 : Tok} : putN "_continuation_ws_len" [ent w "_maxlen" t0 v0, ent w "_continuation_ws" t1 v1] 2 = 3 := by kernel_rfl
theorem gl2 {v0 v1 : Value} {t0 t1 : Tok} : (getL "_continuation_ws_len" [ent w "_maxlen" t0 v0, ent w "_continuation_ws" t1 v1]).isSome = true := by kernel_rfl
theorem put3 {v0 v1 v2 : Value} {t0 t1 t2 : Tok} {v : Value} {t : Tok} : putL "_splitchars" (PyData.keyHash w.params "_splitchars") (.str "_splitchars" t) v [ent w "_maxlen" t0 v0, ent w "_continuation_ws" t1 v1, ent w "_continuation_ws_len" t2 v2] = [ent w "_maxlen" t0 v0, ent w "_continuation_ws" t1 v1, ent w "_continuation_ws_len" t2 v2, ent w "_splitchars" t v] := by kernel_rfl
theorem pn3 {v0 v1 v2 : Value} {t0 t1 t2 : Tok} : putN "_splitchars" [ent w "_maxlen" t0 v0, ent w "_continuation_ws" t1 v1, ent w "_continuation_ws_len" t2 v2] 3 = 4 := by kernel_rfl
theorem gl3 {v0 v1 v2 : Value} {t0 t1 t2 : Tok} : (getL "_splitchars" [ent w "_maxlen" t0 v0, ent w "_continuation_ws" t1 v1, ent w "_continuation_ws_len" t2 v2]).isSome = true := by kernel_rfl
theorem put4 {v0 v1 v2 v3 : Value} {t0 t1 t2 t3 : Tok} {v : Value} {t : Tok} : putL "_lines" (PyData.keyHash w.params "_lines") (.str "_lines" t) v [ent w "_maxlen" t0 v0, ent w "_continuation_ws" t1 v1, ent w "_continuation_ws_len" t2 v2, ent w "_splitchars" t3 v3] = [ent w "_maxlen" t0 v0, ent w "_continuation_ws" t1 v1, ent w "_continuation_ws_len" t2 v2, ent w "_splitchars" t3 v3, ent w "_lines" t v] := by kernel_rfl
theorem pn4 {v0 v1 v2 v3 : Value} {t0 t1 t2 t3 : Tok} : putN "_lines" [ent w "_maxlen" t0 v0, ent w "_continuation_ws" t1 v1, ent w "_continuation_ws_len" t2 v2, ent w "_splitchars" t3 v3] 4 = 5 := by kernel_rfl
theorem gl4 {v0 v1 v2 v3 : Value} {t0 t1 t2 t3 : Tok} : (getL "_lines" [ent w "_maxlen" t0 v0, ent w "_continuation_ws" t1 v1, ent w "_continuation_ws_len" t2 v2, ent w "_splitchars" t3 v3]).isSome = true := by kernel_rfl
theorem put5 {v0 v1 v2 v3 v4 : Value} {t0 t1 t2 t3 t4 : Tok} {v : Value} {t : Tok} : putL "_current_line" (PyData.keyHash w.params "_current_line") (.str "_current_line" t) v [ent w "_maxlen" t0 v0, ent w "_continuation_ws" t1 v1, ent w "_continuation_ws_len" t2 v2, ent w "_splitchars" t3 v3, ent w "_lines" t4 v4] = [ent w "_maxlen" t0 v0, ent w "_continuation_ws" t1 v1, ent w "_continuation_ws_len" t2 v2, ent w "_splitchars" t3 v3, ent w "_lines" t4 v4, ent w "_current_line" t v] := by kernel_rfl
theorem pn5 {v0 v1 v2 v3 v4 : Value} {t0 t1 t2 t3 t4 : Tok} : putN "_current_line" [ent w "_maxlen" t0 v0, ent w "_continuation_ws" t1 v1, ent w "_continuation_ws_len" t2 v2, ent w "_splitchars" t3 v3, ent w "_lines" t4 v4] 5 = 6 := by kernel_rfl
theorem gl5 {v0 v1 v2 v3 v4 : Value} {t0 t1 t2 t3 t4 : Tok} : (getL "_current_line" [ent w "_maxlen" t0 v0, ent w "_continuation_ws" t1 v1, ent w "_continuation_ws_len" t2 v2, ent w "_splitchars" t3 v3, ent w "_lines" t4 v4]).isSome = true := by kernel_rfl
/-- a text's own way to say which -/
theorem vinit_code {R : Result → Shared → Prop} {F dF : Addr} {k mx : Int} {tk tm tw tsc : Tok} {ws sc : Str} (S : At (cx w base os mb) L m ((F, instObj 128 dF) :: (dF, dictOf [] 0) :: mu) led s) (hw : ws.length ≤ 1000) (hA : AOk A d) (hd : d ≤ 440)
    (h : ∀ (f : Fmt) t u n' nl s', f.F = F → f.dF = dF → f.maxlen = mx → f.sc = sc → u = tk → At (cx w base os mb) L m ((f.acc, accO 212 f.dA [] n') :: (f.dA, accD w t k u) :: (f.ln, W.listOf (strValues []).toArray nl) :: mu) ((f.F, f.obj 128) :: (f.dF, f.dict w) :: led) s' → R (.ok (.ret .none)) s') :
    codeAny (cx w base os mb).M A (.call (.ref 69) ⟨[.ref F, .int k tk, .int mx tm, .str ws tw, .str sc tsc], []⟩) R s := by
  refine r_def0 S hA ?a1 (f := 69) (fd := fdA w 69) ?a2 ?a3 (by rfl) (BindsTo.of_eq (binds := [("self", .ref F), ("headerlen", .int k tk), ("maxlen", .int mx tm), ("continuation_ws", .str ws tw), ("splitchars", .str sc tsc)]) ?a4) ?a5 ?a6 [("self", some (.ref F)), ("headerlen", some (.int k tk)), ("maxlen", some (.int mx tm)), ("continuation_ws", some (.str ws tw)), ("splitchars", some (.str sc tsc))] ?a7 ?a8 ?a9 ?a10 ?a11 ?_
  walk_at "sides"
  intro L' oL s1 S1 hb hA1
  refine wpAny_execs_cons ?_
  refine plainObj_wpAny_Assign_Attribute ?_
  refine r_local S1 (by walk_at "mem") ?_ (by kernel_rfl) (by kernel_rfl) (by kernel_rfl)
  refine r_local S1 (by walk_at "mem") ?_ (by kernel_rfl) (by kernel_rfl) (by kernel_rfl)
  refine r_setattr (es := []) (n := 0) (mu' := fun t => (F, instObj 128 dF) :: (dF, dictOf [ent w "_maxlen" t (.int mx tm)] 1) :: mu) S1 (S1.muGet (by walk_at "mem")) rfl vf_seta vf_cd vf_mro2 vf_ref vf_hd vf_tk0 gl0 (by rw [put0]; exact Nat.le_of_ble_eq_true (by kernel_rfl)) (fun t => by rw [put0, pn0]; exact .tail .head) ?_
  intro q0 s2 S2
  refine wpAny_execs_cons ?_
  refine plainObj_wpAny_Assign_Attribute ?_
  refine r_local S2 (by walk_at "mem") ?_ (by kernel_rfl) (by kernel_rfl) (by kernel_rfl)
  refine r_local S2 (by walk_at "mem") ?_ (by kernel_rfl) (by kernel_rfl) (by kernel_rfl)
  refine r_setattr (es := [ent w "_maxlen" q0 (.int mx tm)]) (n := 1) (mu' := fun t => (F, instObj 128 dF) :: (dF, dictOf [ent w "_maxlen" q0 (.int mx tm), ent w "_continuation_ws" t (.str ws tw)] 2) :: mu) S2 (S2.muGet (by walk_at "mem")) rfl vf_seta vf_cd vf_mro2 vf_ref vf_hd vf_tk1 gl1 (by rw [put1]; exact Nat.le_of_ble_eq_true (by kernel_rfl)) (fun t => by rw [put1, pn1]; exact .tail .head) ?_
  intro q1 s3 S3
  refine wpAny_execs_cons ?_
  refine plainObj_wpAny_Assign_Attribute ?_
  refine Call_ ?_
  refine r_bi S3 (x := "len") (v := .builtin "len") (by kernel_rfl) (by kernel_rfl) (by decide) ?_ (by kernel_rfl) (by kernel_rfl) (by kernel_rfl) (by kernel_rfl) (by kernel_rfl)
  refine callWith_method1 ?_
  refine args_cons ?_
  refine r_local S3 (by walk_at "mem") ?_ (by kernel_rfl) (by kernel_rfl) (by kernel_rfl)
  refine args_nil ?_
  refine r_lenStr S3 (le_sz (by omega)) ?_
  intro q9 s4 S4
  refine r_local S4 (by walk_at "mem") ?_ (by kernel_rfl) (by kernel_rfl) (by kernel_rfl)
  refine r_setattr (es := [ent w "_maxlen" q0 (.int mx tm), ent w "_continuation_ws" q1 (.str ws tw)]) (n := 2) (mu' := fun t => (F, instObj 128 dF) :: (dF, dictOf [ent w "_maxlen" q0 (.int mx tm), ent w "_continuation_ws" q1 (.str ws tw), ent w "_continuation_ws_len" t (.int ws.length q9)] 3) :: mu) S4 (S4.muGet (by walk_at "mem")) rfl vf_seta vf_cd vf_mro2 vf_ref vf_hd vf_tk2 gl2 (by rw [put2]; exact Nat.le_of_ble_eq_true (by kernel_rfl)) (fun t => by rw [put2, pn2]; exact .tail .head) ?_
  intro q2 s5 S5
  refine wpAny_execs_cons ?_
  refine plainObj_wpAny_Assign_Attribute ?_
  refine r_local S5 (by walk_at "mem") ?_ (by kernel_rfl) (by kernel_rfl) (by kernel_rfl)
  refine r_local S5 (by walk_at "mem") ?_ (by kernel_rfl) (by kernel_rfl) (by kernel_rfl)
  refine r_setattr (es := [ent w "_maxlen" q0 (.int mx tm), ent w "_continuation_ws" q1 (.str ws tw), ent w "_continuation_ws_len" q2 (.int ws.length q9)]) (n := 3) (mu' := fun t => (F, instObj 128 dF) :: (dF, dictOf [ent w "_maxlen" q0 (.int mx tm), ent w "_continuation_ws" q1 (.str ws tw), ent w "_continuation_ws_len" q2 (.int ws.length q9), ent w "_splitchars" t (.str sc tsc)] 4) :: mu) S5 (S5.muGet (by walk_at "mem")) rfl vf_seta vf_cd vf_mro2 vf_ref vf_hd vf_tk3 gl3 (by rw [put3]; exact Nat.le_of_ble_eq_true (by kernel_rfl)) (fun t => by rw [put3, pn3]; exact .tail .head) ?_
  intro q3 s6 S6
  refine wpAny_execs_cons ?_
  refine plainObj_wpAny_Assign_Attribute ?_
  refine List_ ?_
  refine args_nil ?_
  refine r_newList S6 ?_ (by kernel_rfl)
  intro ln s7 S7
  refine r_local S7 (by walk_at "mem") ?_ (by kernel_rfl) (by kernel_rfl) (by kernel_rfl)
  refine r_setattr (es := [ent w "_maxlen" q0 (.int mx tm), ent w "_continuation_ws" q1 (.str ws tw), ent w "_continuation_ws_len" q2 (.int ws.length q9), ent w "_splitchars" q3 (.str sc tsc)]) (n := 4) (mu' := fun t => (ln, W.listOf [].toArray 0) :: (F, instObj 128 dF) :: (dF, dictOf [ent w "_maxlen" q0 (.int mx tm), ent w "_continuation_ws" q1 (.str ws tw), ent w "_continuation_ws_len" q2 (.int ws.length q9), ent w "_splitchars" q3 (.str sc tsc), ent w "_lines" t (.ref ln)] 5) :: mu) S7 (S7.muGet (by walk_at "mem")) rfl vf_seta vf_cd vf_mro2 vf_ref vf_hd vf_tk4 gl4 (by rw [put4]; exact Nat.le_of_ble_eq_true (by kernel_rfl)) (fun t => by rw [put4, pn4]; exact .tail (.tail .head)) ?_
  intro q4 s8 S8
  refine wpAny_execs_cons ?_
  refine plainObj_wpAny_Assign_Attribute ?_
  refine Call_ ?_
  refine r_glob S8 g_acc ?_ (by kernel_rfl) (by kernel_rfl) (by kernel_rfl) (by kernel_rfl)
  refine callWith_K S8.inK kp_acc ?_
  refine args_cons ?_
  refine r_local S8 (by walk_at "mem") ?_ (by kernel_rfl) (by kernel_rfl) (by kernel_rfl)
  refine args_nil ?_
  refine ⟨S8.inK, ?_⟩
  refine r_newAcc S8 hA1 (by omega) ?_
  intro acc dA tA nA s9 S9
  refine r_local S9 (by walk_at "mem") ?_ (by kernel_rfl) (by kernel_rfl) (by kernel_rfl)
  refine r_setattr (es := [ent w "_maxlen" q0 (.int mx tm), ent w "_continuation_ws" q1 (.str ws tw), ent w "_continuation_ws_len" q2 (.int ws.length q9), ent w "_splitchars" q3 (.str sc tsc), ent w "_lines" q4 (.ref ln)]) (n := 5) (mu' := fun t => (acc, accO 212 dA [] nA) :: (dA, accD w tA k tk) :: (ln, W.listOf [].toArray 0) :: (F, instObj 128 dF) :: (dF, dictOf [ent w "_maxlen" q0 (.int mx tm), ent w "_continuation_ws" q1 (.str ws tw), ent w "_continuation_ws_len" q2 (.int ws.length q9), ent w "_splitchars" q3 (.str sc tsc), ent w "_lines" q4 (.ref ln), ent w "_current_line" t (.ref acc)] 6) :: mu) S9 (S9.muGet (by walk_at "mem")) rfl vf_seta vf_cd vf_mro2 vf_ref vf_hd vf_tk5 gl5 (by rw [put5]; exact Nat.le_of_ble_eq_true (by kernel_rfl)) (fun t => by rw [put5, pn5]; exact .tail (.tail (.tail (.tail .head)))) ?_
  intro q5 s10 S10
  refine wpAny_execs_nil ?_
  have P10 := S10.perm (mu' := (F, instObj 128 dF) :: (dF, dictOf [ent w "_maxlen" q0 (.int mx tm), ent w "_continuation_ws" q1 (.str ws tw), ent w "_continuation_ws_len" q2 (.int ws.length q9), ent w "_splitchars" q3 (.str sc tsc), ent w "_lines" q4 (.ref ln), ent w "_current_line" q5 (.ref acc)] 6) :: (acc, accO 212 dA [] nA) :: (dA, accD w tA k tk) :: (ln, W.listOf [].toArray 0) :: mu) (List.perm_append_comm_assoc [_, _, _] [_, _] _)
  have F10 := P10.freeze.freeze
  let f : Fmt := ⟨F, dF, ln, acc, dA, fun i => match i with | 0 => q0 | 1 => q1 | 2 => q2 | 3 => q3 | 4 => q4 | _ => q5, fun i => match i with | 0 => tm | 1 => tw | 2 => q9 | _ => tsc, mx, ws, ws.length, sc⟩
  have B10 : At (cx w base os mb) L m ((f.acc, accO 212 f.dA [] nA) :: (f.dA, accD w tA k tk) :: (f.ln, W.listOf (strValues []).toArray 0) :: mu) ((f.F, f.obj 128) :: (f.dF, f.dict w) :: led) s10 := hb.2 F10 (by walk_at "mem") (mem_all_cons ⟨.tail _ (.head _), (S.hmu _ (.head _)).2.1⟩ (mem_all_cons ⟨.head _, (S.hmu _ (.tail _ (.head _))).2.1⟩ fun p hp => ⟨.tail _ (.tail _ (.tail _ hp)), (S.hled p hp).2.1⟩))
  exact h f tA tk nA 0 s10 rfl rfl rfl rfl rfl B10
theorem r_newFmt {k mx : Int} {tk tm tw tsc : Tok} {ws sc : Str} (S : At (cx w base os mb) L m mu led s) (hw : ws.length ≤ 1000) (hA : AOk A d) (hd : d ≤ 430)
    (h : ∀ (f : Fmt) t u n' nl s', f.maxlen = mx → f.sc = sc → At (cx w base os mb) L m ((f.acc, accO 212 f.dA [] n') :: (f.dA, accD w t k u) :: (f.ln, W.listOf (strValues []).toArray nl) :: mu) ((f.F, f.obj 128) :: (f.dF, f.dict w) :: led) s' → Q (.ref f.F) s') :
    wpAny (cx w base os mb).M A (call (.ref 128) [.int k tk, .int mx tm, .str ws tw, .str sc tsc]) Q E s := by
  refine wpAny_call (r_make S vf_makes vf_initf fn_vinit ?_)
  intro x dx s1 S1
  refine vinit_code S1 hw (hA.under _ _) (by omega) ?_
  intro f t u n' nl s2 e1 e2 e3 e4 e5 S2
  refine ⟨rfl, ?_⟩
  have := h f t u n' nl s2 e3 e4 S2
  rw [e1] at this
  exact this
end
/- FmJ02 -/
set_option autoImplicit false
section
variable {w : World} {base : Heap} {os : OsState} {mb : Str → Option Value} {L : Addr} {m : Loc} {mu led : List (Addr × Obj)} {s : Shared} {A : Around} {E : Value → Shared → Prop} {Q : Value → Shared → Prop} {d : Nat}
set_option maxHeartbeats 2000000
theorem pat1_ok : PatOk (cx w base os mb) 43 fnd1 where
  rec_ := ⟨_, _, _, _, C1, by rfl, by rfl, by rfl, by rfl, by rfl, by kernel_rfl, fun text s hs => by
    obtain ⟨k, hk, he⟩ := forSearch1 text s hs
    exact ⟨k, by omega, he⟩⟩
  ok := fun text s p e hs h => by
    unfold fnd1 at h
    cases hf : find1 text (text.size - s) s with
    | none => rw [hf] at h; cases h
    | some q =>
      rw [hf] at h
      cases h
      have := find1_at _ _ _ rfl hf
      omega
theorem pat2_ok : PatOk (cx w base os mb) 48 fnd2 where
  rec_ := ⟨_, _, _, _, C2, by rfl, by rfl, by rfl, by rfl, by rfl, by kernel_rfl, fun text s hs => by
    obtain ⟨k, hk, he⟩ := forSearch2 (text := text) s hs
    exact ⟨k, by omega, he⟩⟩
  ok := fun text s p e hs h => by
    unfold fnd2 at h
    cases hf : find2 text (text.size - s) s with
    | none => rw [hf] at h; cases h
    | some q =>
      rw [hf] at h
      cases h
      have := find2_ge _ _ _ rfl hf
      have := end2_le this.2
      omega
theorem g_re1 : nsIn (KF w) mainGlobals "_twin_re_1" = some (some (.ref 43)) := by kernel_rfl
theorem g_re2 : nsIn (KF w) mainGlobals "_twin_re_2" = some (some (.ref 48)) := by kernel_rfl
theorem g_crlf : nsIn (KF w) mainGlobals "CRLF" = some (some (.str "\r\n" 349)) := by kernel_rfl
theorem pt_sub : findIn (KF w) (.type "re.Pattern") "sub" = some (some (.builtin "re.Pattern.sub")) := by kernel_rfl
theorem pt_subT : typeIn (KF w) (.builtin "re.Pattern.sub") = some (.type "method_descriptor") := by kernel_rfl
theorem pt_ga : findIn (KF w) (.type "re.Pattern") "__getattribute__" = some (some (.builtin "object.__getattribute__")) := by kernel_rfl
theorem pt_ng : findIn (KF w) (.type "re.Pattern") "__getattr__" = some none := by kernel_rfl
theorem r_psub {pat : Addr} {find : Array Nat → Nat → Option (Nat × Nat)} {pl : Sem Bool} {Q : Value × List Value → Shared → Prop} (S : At (cx w base os mb) L m mu led s) (P : PatOk (cx w base os mb) pat find) (h : Q (.builtin "re.Pattern.sub", [.ref pat]) s) : wpAny (cx w base os mb).M A (getMethod (.ref pat) "sub" pl) Q E s := by
  obtain ⟨fs, ca, items, n, code, hp, hrest⟩ := P.rec_
  exact r_meth S (t := .type "re.Pattern") (f := .builtin "re.Pattern.sub") (tf := "method_descriptor") (ga := "object.__getattribute__") (looks_ref (S.top hp) rfl) pt_ga vf_can pt_ng pt_sub pt_subT (by decide) ⟨_, S.top hp, .inl rfl⟩ h
theorem quote_spec {x : Str} {tx : Tok} (S : At (cx w base os mb) L m mu led s) (hx : x.cps.size ≤ 100000) (hx2 : (crlfP x).cps.size ≤ 100000) (hA : AOk A d) (hd : d ≤ 470)
    (h : ∀ t' s', 0 < s'.toks → At (cx w base os mb) L m mu led s' → Q (.str (quoteP x) t') s') :
    wpAny (cx w base os mb).M A (call (.ref 55) [.str x tx]) Q E s := by
  refine r_def S hA ?a1 (f := 55) (fd := fdA w 55) ?a2 ?a3 (by rfl) (BindsTo.of_eq (binds := [("data", .str x tx)]) ?a4) ?a5 ?a6 [("data", some (.str x tx))] ?a7 ?a8 ?a9 ?a10 ?a11 ?_
  walk_at "sides"
  intro L' oL s1 S1 hb hA1
  refine wpAny_execs_cons ?_
  refine wpAny_Return_some ?_
  refine MethodCall_ ?_
  refine r_glob S1 g_re1 ?_ (by kernel_rfl) (by kernel_rfl) (by kernel_rfl) (by kernel_rfl)
  refine r_psub S1 pat1_ok ?_
  refine callWith_method1 ?_
  refine args_cons ?_
  refine r_str S1 ?_
  intro t2 s2 S2
  refine args_cons ?_
  refine MethodCall_ ?_
  refine r_glob S2 g_re2 ?_ (by kernel_rfl) (by kernel_rfl) (by kernel_rfl) (by kernel_rfl)
  refine r_psub S2 pat2_ok ?_
  refine callWith_method1 ?_
  refine args_cons ?_
  refine r_glob S2 g_crlf ?_ (by kernel_rfl) (by kernel_rfl) (by kernel_rfl) (by kernel_rfl)
  refine args_cons ?_
  refine r_local S2 (by walk_at "mem") ?_ (by kernel_rfl) (by kernel_rfl) (by kernel_rfl)
  refine args_nil ?_
  refine r_sub1 S2 pat2_ok hx (by decide +kernel) (by decide +kernel) ?_
  intro t3 s3 _ S3
  refine args_nil ?_
  refine r_sub1 S3 pat1_ok hx2 (by decide +kernel) (by decide +kernel) ?_
  intro t4 s4 htk S4
  exact h t4 s4 htk (hb.ret S S4 (by walk_at "mem") fun p hp => ⟨.tail _ hp, .inl hp⟩)
end
/- LbA02 -/
set_option autoImplicit false
local macro_rules | `(tactic| walk_at "setm") => `(tactic| with_reducible (first | exact SetM.head | (refine SetM.tail ?_; walk_at "setm")))
local macro_rules | `(tactic| walk_at "subl") => `(tactic| with_reducible (first | exact List.Sublist.refl _ | (refine List.Sublist.cons_cons _ ?_; walk_at "subl") | (refine List.Sublist.cons _ ?_; walk_at "subl")))
local macro_rules | `(tactic| walk_at "defk") => `(tactic| ((case a1 => omega); (case a2 => kernel_rfl); (case a3 => kernel_rfl); (case a4 => kernel_rfl); (case a5 => kernel_rfl); (case a6 => (intro n; kernel_rfl)); (case a7 => (intro n; kernel_rfl)); (case a9 => kernel_rfl); (case a10 => kernel_rfl); (case a11 => walk_at "loc"); (case a12 => kernel_rfl); (case a13 => kernel_rfl); (case a14 => kernel_rfl)))
section
variable {w : World} {base : Heap} {os : OsState} {mb : Str → Option Value} {L : Addr} {m : Loc} {mu led : List (Addr × Obj)} {s : Shared} {A : Around} {E : Value → Shared → Prop} {Q : Value → Shared → Prop} {d : Nat}
set_option maxHeartbeats 2000000
def givenOf (ns : List Int) : List Int := (ns ++ [0, 0, 0, 0]).take (max 4 (min 6 ns.length))
def firstSeeds : List Int := [1, 2, 2, 4, 0, 0]
def boardAt (g : List Int) (k : Nat) : Int := Int.fmod (firstSeeds.getD k 0 + g.getD k 0) ((k : Int) + 3)
def boardOf (ns : List Int) : List Int := (List.range (givenOf ns).length).map (boardAt (givenOf ns))
theorem given_len (ns : List Int) : (givenOf ns).length = max 4 (min 6 ns.length) := by
  unfold givenOf
  rw [List.length_take, List.length_append]
  simp
  omega
theorem board_spec {a : Addr} {vs : List Value} {ns : List Int} (S : At (cx w base os mb) L m mu led s) (ha : base.IsList a vs.toArray) (hn : a ∉ (cx w base os mb).tabs.map (·.2.1)) (hi : RI vs ns) (hz : ns.length ≤ 1000) (hA : AOk A d) (hd : d ≤ 470)
    (h : ∀ D n ws s', RI ws (boardOf ns) → At (cx w base os mb) L m ((D, W.listOf ws.toArray n) :: mu) led s' → Q (.ref D) s') : wpAny (cx w base os mb).M A (call (.ref 221) [.ref a]) Q E s := by
  have hlen := hi.length
  refine r_defK S hA ?a1 (f := 221) (fd := fdA w 221) ?a2 ?a3 (by rfl) (binds := [("script", .ref a)]) ?a4 ?a5 (fun n => [("given", n)]) (fun n => [(n, cellO none)]) ?a6 ?a7 ?a8 ?a9 [("script", some (.ref a))] ?a10 ?a11 ?a12 ?a13 ?a14 ?_
  case a8 =>
    intro n x hx
    cases List.mem_singleton.mp hx
    exact .inl (by kernel_rfl)
  walk_at "defk"
  intro L' oL s1 S1 hb hA1
  simp only [List.cons_append, List.nil_append] at S1
  have hh := hA1.handled
  refine wpAny_execs_cons ?_
  refine wpAny_Assign_Name ?_
  refine Subscript_ ?_
  refine wpAny_BinOp ?_
  refine n_l S1 ?_
  refine List_ ?_
  refine args_cons (r_int S1 fun t2 s2 S2 => ?_)
  refine args_cons (r_int S2 fun t3 s3 S3 => ?_)
  refine args_cons (r_int S3 fun t4 s4 S4 => ?_)
  refine args_cons (r_int S4 fun t5 s5 S5 => ?_)
  refine args_nil ?_
  refine r_newList S5 ?_ (by kernel_rfl)
  intro z s6 S6
  refine r_addLL (vs := vs) (ws := [Value.int 0 t2, .int 0 t3, .int 0 t4, .int 0 t5]) S6 (S6.baseList ha hn) (S6.knIsList (n := 0) (kn_mu (.head _))) (by simp; omega) ?_
  intro sum s7 S7
  refine r_Slice ?_
  refine wpAny_pure ?_
  show wpAny _ _ (eval _ _) _ _ _
  refine Call_ ?_
  refine n_b (.builtin "max") S7 ?_
  refine callWith_method1 ?_
  refine args_cons (r_int S7 fun t8 s8 S8 => ?_)
  refine args_cons ?_
  refine Call_ ?_
  refine n_b (.builtin "min") S8 ?_
  refine callWith_method1 ?_
  refine args_cons (r_int S8 fun t9 s9 S9 => ?_)
  refine args_cons ?_
  refine Call_ ?_
  refine n_b (.builtin "len") S9 ?_
  refine callWith_method1 ?_
  refine args_cons ?_
  refine n_l S9 ?_
  refine args_nil ?_
  refine r_lenLL S9 (S9.baseList ha hn) (by omega) ?_
  intro t10 s10 S10
  refine args_nil ?_
  refine r_min2 S10 hh ?_
  intro t11 s11 S11
  refine args_nil ?_
  refine r_max2 S11 hh ?_
  intro t12 s12 S12
  refine ⟨_, _, _, _, S12, fun q s13 S13 => ?_⟩
  have ek : max (4 : Int) (min 6 (vs.length : Int)) = ((max 4 (min 6 vs.length) : Nat) : Int) := by omega
  refine r_sliceL (vs := vs ++ [Value.int 0 t2, .int 0 t3, .int 0 t4, .int 0 t5]) ((vs ++ [Value.int 0 t2, .int 0 t3, .int 0 t4, .int 0 t5]).take (max 4 (min 6 vs.length))) S13 (kn_mu (.head _)) (.head _) .none (.int _ _) (by simp; omega) (by rw [ek]; exact slicePick_to _ _) (by with_unfolding_all rfl) ?_
  intro gv s14 S14
  replace S14 := S14.ledSub (led' := (L, oL) :: led) fun p hp => .tail _ hp
  have hg : RI ((vs ++ [Value.int 0 t2, .int 0 t3, .int 0 t4, .int 0 t5]).take (max 4 (min 6 vs.length))) (givenOf ns) := by
    unfold givenOf
    rw [hlen]
    exact (hi.append (.cons ⟨_, rfl⟩ (.cons ⟨_, rfl⟩ (.cons ⟨_, rfl⟩ (.cons ⟨_, rfl⟩ .nil))))).take _
  generalize (vs ++ [Value.int 0 t2, .int 0 t3, .int 0 t4, .int 0 t5]).take (max 4 (min 6 vs.length)) = gs at *
  have hgl := hg.length
  have hgn := given_len ns
  refine st_c (L' + 1) none S14 ?_ (mu' := (gv, W.listOf gs.toArray 0) :: (sum, W.listOf (vs ++ [Value.int 0 t2, .int 0 t3, .int 0 t4, .int 0 t5]).toArray 0) :: (z, W.listOf [Value.int 0 t2, .int 0 t3, .int 0 t4, .int 0 t5].toArray 0) :: (L' + 1, cellO (some (.ref gv))) :: mu)
  intro s15 S15
  refine wpAny_execs_cons ?_
  refine wpAny_Return_some ?_
  refine comp_eval (c_R S15 [("given", L' + 1)] (fun _ => isI) (fun k => some (boardAt (givenOf ns) k)) gs.length (by omega) hh ?it ?step (fun _ _ _ _ _ z => z)) ?fin
  case it =>
    intro Q' k
    refine Call_ ?_
    refine n_b (.type "range") S15 ?_
    refine PyProof.Rows.callWith_type1 ?_
    refine args_cons ?_
    refine Call_ ?_
    refine n_b (.builtin "len") S15 ?_
    refine callWith_method1 ?_
    refine args_cons ?_
    refine n_c (L' + 1) S15 ?_
    refine args_nil ?_
    refine r_lenL S15 (kn_mu (.head _)) (by omega) ?_
    intro t16 s16 S16
    refine args_nil ?_
    refine r_range1 S16 ?_
    intro r t1 t2 s' S'
    exact k r _ _ _ s' S'
  case step =>
    intro Lc D us n oL2 news it o s16 i t hi' hnd S16
    refine t_nil ?_
    rw [if_pos rfl]
    refine wpAny_BinOp ?_
    refine wpAny_BinOp ?_
    refine Subscript_ ?_
    refine Tuple_ ?_
    refine args_cons (r_int S16 fun u1 s17 S17 => ?_)
    refine args_cons (r_int S17 fun u2 s18 S18 => ?_)
    refine args_cons (r_int S18 fun u3 s19 S19 => ?_)
    refine args_cons (r_int S19 fun u4 s20 S20 => ?_)
    refine args_cons (r_int S20 fun u5 s21 S21 => ?_)
    refine args_cons (r_int S21 fun u6 s22 S22 => ?_)
    refine args_nil ?_
    refine r_newTuple S22 ?_ (by kernel_rfl)
    intro tp s23 S23
    refine n_l S23 ?_
    have hi6 : i < 6 := by omega
    obtain ⟨x, hx⟩ : ∃ x, [Value.int 1 u1, .int 2 u2, .int 2 u3, .int 4 u4, .int 0 u5, .int 0 u6][i]? = some x := ⟨_, List.getElem?_eq_getElem hi6⟩
    have hxi : ∃ u, x = .int (firstSeeds.getD i 0) u := by
      have : RI [Value.int 1 u1, .int 2 u2, .int 2 u3, .int 4 u4, .int 0 u5, .int 0 u6] firstSeeds := .cons ⟨_, rfl⟩ (.cons ⟨_, rfl⟩ (.cons ⟨_, rfl⟩ (.cons ⟨_, rfl⟩ (.cons ⟨_, rfl⟩ (.cons ⟨_, rfl⟩ .nil)))))
      obtain ⟨v, e1, e2⟩ := this.get (i := i) (y := firstSeeds.getD i 0) (by
        have : i < firstSeeds.length := hi6
        simp [List.getD, this])
      rw [hx] at e1; cases e1; exact e2
    obtain ⟨u, rfl⟩ := hxi
    refine r_itemT S23 (j := i) (.head _) (by omega) (by omega) (by simp [seqIndex?]; omega) hx (by with_unfolding_all rfl) ?_
    refine Subscript_ ?_
    refine n_c (L' + 1) S23 ?_
    refine n_l S23 ?_
    obtain ⟨v, hv, u', rfl⟩ := hg.get (i := i) (y := (givenOf ns).getD i 0) (by
      have : i < (givenOf ns).length := by omega
      simp [List.getD, this])
    refine r_itemL i S23 (kn_mu (by walk_at "mem")) rfl (by omega) hv (by with_unfolding_all rfl) ?_
    refine r_add S23 ?_
    intro u7 s24 S24
    refine wpAny_BinOp ?_
    refine n_l S24 ?_
    refine r_int S24 fun u8 s25 S25 => ?_
    refine r_add S25 ?_
    intro u9 s26 S26
    refine r_mod S26 (by omega) ?_
    intro u10 s27 S27
    refine ⟨_, [], rfl, by simp, ⟨_, rfl⟩, ?_⟩
    exact S27.ledSub fun p hp => .tail _ hp
  case fin =>
    intro D us n news s16 hnd hR S16
    rw [reps_all, hgl] at hR
    refine h D n us s16 hR ?_
    have S17 : At (cx w base os mb) L' [("script", some (.ref a))] ((D, W.listOf us.toArray n) :: mu) (news ++ (L, oL) :: led) s16 := S16.pick
    exact hb.ret S S17 (List.mem_append.mpr (.inr (.head _))) fun p hp => ⟨List.mem_append.mpr (.inr (.tail _ hp)), .inl hp⟩
end
/- LbB02 -/
set_option autoImplicit false
section
variable {w : World} {base : Heap} {os : OsState} {mb : Str → Option Value} {L : Addr} {m : Loc} {mu led : List (Addr × Obj)} {s : Shared} {A : Around} {E : Value → Shared → Prop} {Q : Value → Shared → Prop} {d : Nat}
set_option maxHeartbeats 2000000
abbrev rI (l : List Nat) : List Int := l.map fun n : Nat => (n : Int)
theorem sum_cast (l : List Nat) : (rI l).sum = (l.sum : Nat) := by
  induction l with
  | nil => rfl
  | cons a l ih => simp only [rI, List.map_cons, List.sum_cons] at ih ⊢; omega
theorem strOk_dots (n : Nat) : PyData.strOk (dots n) = true := by
  unfold PyData.strOk dots
  rw [← Array.all_toList, Array.toList_replicate, List.all_eq_true]
  intro x hx
  rw [List.eq_of_mem_replicate hx]
  decide
theorem g_quote : nsIn (KF w) mainGlobals "quotedata" = some (some (.ref 55)) := by kernel_rfl
theorem kp_quote : keepIn (KF w) (.ref 55) = true := by kernel_rfl
theorem getD_map_dots (rs : List Nat) (i : Nat) (h : i < rs.length) : (rs.map dots)[i]? = some (dots (rs.getD i 0)) := by
  simp [List.getElem?_map, List.getD, List.getElem?_eq_getElem h]
abbrev locS (a : Addr) (P mv rp ah : Option Value) : Loc := [("seeds", some (.ref a)), ("pits", P), ("move", mv), ("ripe", rp), ("ahead", ah)]
theorem locS_sub {a : Addr} {P mv rp ah : Option Value} (S : At (cx w base os mb) L (locS a P mv rp ah) mu led s) : At (cx w base os mb) L (locS a P none none none) mu led s := by
  refine S.locSub rfl fun x v h => ?_
  simp only [List.mem_cons, List.not_mem_nil, or_false, Prod.mk.injEq, reduceCtorEq, and_false] at h
  rcases h with ⟨rfl, h⟩ | ⟨rfl, h⟩
  · rw [h]; exact .head _
  · rw [h]; exact .tail _ (.head _)
/-- the moves' loop -/
def InvS (w : World) (base : Heap) (os : OsState) (mb : Str → Option Value) (L' L : Addr) (oL : Obj) (mu led : List (Addr × Obj)) (a P it : Addr) (xs : List Nat) (st : Nat → List Nat × List Nat) (i : Nat) (s' : Shared) : Prop :=
  ∃ R rv nr pv np, RS rv ((st i).1.map dots) ∧ RI pv (rI (st i).2) ∧ At (cx w base os mb) L' (locS a (some (.ref P)) none none none) ((it, rngO (i : Int) ((xs.sum : Int) - i) 1) :: (P, W.listOf pv.toArray np) :: (R, W.listOf rv.toArray nr) :: (L' + 1, cellO (some (.ref R))) :: mu) ((L, oL) :: led) s'
theorem InvS.of {w : World} {base : Heap} {os : OsState} {mb : Str → Option Value} {L' L : Addr} {oL : Obj} {mu led : List (Addr × Obj)} {a P it : Addr} {xs : List Nat} {st : Nat → List Nat × List Nat} {i : Nat} {s' : Shared} (h : ∃ R rv nr pv np, RS rv ((st i).1.map dots) ∧ RI pv (rI (st i).2) ∧ At (cx w base os mb) L' (locS a (some (.ref P)) none none none) ((it, rngO (i : Int) ((xs.sum : Int) - i) 1) :: (P, W.listOf pv.toArray np) :: (R, W.listOf rv.toArray nr) :: (L' + 1, cellO (some (.ref R))) :: mu) ((L, oL) :: led) s') : InvS w base os mb L' L oL mu led a P it xs st i s' := h
theorem sown_spec {a : Addr} {vs : List Value} {n0 : Nat} {xs : List Nat} (S : At (cx w base os mb) L m mu led s) (ha : Kn (cx w base os mb) mu led a (W.listOf vs.toArray n0)) (hi : RI vs (rI xs)) (hz : xs.length ≤ 30) (hsum : xs.sum ≤ 50) (hA : AOk A d) (hd : d ≤ 460)
    (h : ∀ t R P rv pv nr np s', RS rv ((sownOf xs).1.map dots) → RI pv (rI (sownOf xs).2) → At (cx w base os mb) L m ((R, W.listOf rv.toArray nr) :: (P, W.listOf pv.toArray np) :: mu) ((t, tupO [.ref R, .ref P]) :: led) s' → Q (.ref t) s') :
    wpAny (cx w base os mb).M A (call (.ref 226) [.ref a]) Q E s := by
  have hlen : vs.length = xs.length := by rw [hi.length]; simp [rI]
  refine r_defK S hA ?a1 (f := 226) (fd := fdA w 226) ?a2 ?a3 (by rfl) (binds := [("seeds", .ref a)]) ?a4 ?a5 (fun n => [("rows", n)]) (fun n => [(n, cellO none)]) ?a6 ?a7 ?a8 ?a9 (locS a none none none none) ?a10 ?a11 ?a12 ?a13 ?a14 ?_
  case a8 =>
    intro n x hx
    cases List.mem_singleton.mp hx
    exact .inl (by kernel_rfl)
  walk_at "defk"
  intro L' oL s1 S1 hb hA1
  simp only [List.cons_append, List.nil_append] at S1
  have hh := hA1.handled
  have ha1 : Kn (cx w base os mb) ((L' + 1, cellO none) :: mu) ((L, oL) :: led) a (W.listOf vs.toArray n0) := ha.mono (fun p hp => .tail _ hp) (fun p hp => .tail _ hp)
  refine wpAny_execs_cons ?_
  refine Assign_Tuple ?_ (by kernel_rfl) (by kernel_rfl)
  refine Tuple_ ?_
  refine args_cons ?_
  refine comp_eval (c_L S1 [] (fun _ => isS) (fun k => some (dots (xs.getD k 0 + 1))) ha1 (by omega) hh ?it1 ?st1 (fun _ _ _ _ _ z => z)) ?fin1
  case it1 =>
    intro Q' k
    exact n_l S1 (k _ S1)
  case st1 =>
    intro Lc D us n oL2 news it o s2 i v hv hnd S2
    refine t_nil ?_
    rw [if_pos rfl]
    have hil : i < xs.length := hlen ▸ lt_of_some hv
    obtain ⟨v', e1, t, rfl⟩ := hi.get (i := i) (y := ((xs.getD i 0 : Nat) : Int)) (by simp [rI, List.getD, List.getElem?_map, List.getElem?_eq_getElem hil])
    rw [hv] at e1
    cases e1
    have hxi : xs.getD i 0 ≤ 50 := Nat.le_trans (mem_le_sum (getD_mem' hil)) hsum
    refine wpAny_BinOp ?_
    refine r_str S2 fun t3 s3 S3 => ?_
    refine wpAny_BinOp ?_
    refine n_l S3 ?_
    refine r_int S3 fun t4 s4 S4 => ?_
    refine r_add S4 ?_
    intro t5 s5 S5
    refine r_mulS S5 (by decide +kernel) (by omega) (by omega) ?_
    intro t6 s6 S6
    refine ⟨_, [], rfl, by simp, ⟨t6, ?_⟩, S6⟩
    rw [show ((xs.getD i 0 : Nat) : Int) + 1 = ((xs.getD i 0 + 1 : Nat) : Int) by omega, mul_dot]
  case fin1 =>
  intro R0 rv0 nr0 news s2 hnd hR S2
  replace S2 := S2.ledSub (led' := (L, oL) :: led) fun p hp => List.mem_append.mpr (.inr hp)
  have hR0 : RS rv0 ((sowI (xs.map (· + 1), []) 0).1.map dots) := by
    have e : (List.range vs.length).filterMap (fun k => some (dots (xs.getD k 0 + 1))) = (xs.map (· + 1)).map dots := by
      rw [reps_all, hlen]
      have e2 := take_getD xs xs.length (Nat.le_refl _)
      rw [List.take_length] at e2
      conv => rhs; rw [e2]
      rw [List.map_map, List.map_map]
      rfl
    rw [e] at hR
    exact hR
  clear hR
  refine args_cons (List_ (args_nil (r_newList S2 ?_ (by kernel_rfl))))
  intro P s3 S3
  refine args_nil ?_
  refine r_newTuple S3 ?_ (by kernel_rfl)
  intro t s4 S4
  refine r_unpack S4 hh (.head _) ?_
  intro s5 S5
  refine assignInOrder_cons (assign_Name (st_c (L' + 1) none S5 ?_ (mu' := (P, W.listOf [].toArray 0) :: (R0, W.listOf rv0.toArray nr0) :: (L' + 1, cellO (some (.ref R0))) :: mu)))
  intro s6 S6
  refine assignInOrder_cons (assign_Name (st_l S6 ?_ (m' := locS a (some (.ref P)) none none none)))
  intro s7 S7
  refine assignInOrder_nil ?_
  replace S7 := S7.ledSub (led' := (L, oL) :: led) fun p hp => .tail _ hp
  have ha7 : ∀ {x y : Addr × Obj} {R : Addr}, Kn (cx w base os mb) (x :: y :: (L' + 1, cellO (some (.ref R))) :: mu) ((L, oL) :: led) a (W.listOf vs.toArray n0) := ha.mono (fun p hp => .tail _ (.tail _ (.tail _ hp))) (fun p hp => .tail _ hp)
  refine wpAny_execs_cons ?_
  refine wpAny_For ?_
  refine Call_ ?_
  refine n_b (.type "range") S7 ?_
  refine PyProof.Rows.callWith_type1 ?_
  refine args_cons ?_
  refine Call_ ?_
  refine n_b (.builtin "sum") S7 ?_
  refine callWith_method1 ?_
  refine args_cons (n_l S7 ?_)
  refine args_nil ?_
  refine r_sumL S7 hh (S7.knIsList ha7) hi.ints ?_
  intro t8 s8 S8
  refine args_nil ?_
  refine r_range1 S8 ?_
  intro r8 t9 t10 s9 S9
  refine it_rangeN (N := xs.sum) S9 (by rw [sum_cast]; omega) (by decide) (by omega) ?_
  intro it s10 S10
  generalize hst : sowI (xs.map (· + 1), []) = st at *
  have hrows : ∀ n, Rows 1 (51 + n) (st n).1 := fun n => by
    rw [← hst]
    refine sow_rows (fun r hr => ?_) (by omega) n
    obtain ⟨x, hx, rfl⟩ := List.mem_map.mp hr
    have := mem_le_sum hx
    omega
  have hlens : ∀ n, (st n).1.length = xs.length := fun n => by rw [← hst, sow_len]; simp
  have hpits : ∀ n, (st n).2.length ≤ n := fun n => by rw [← hst]; simpa using sow_pits (xs.map (· + 1), []) n
  have hstep : ∀ n, st (n + 1) = sowStep (st n) := fun n => by rw [← hst]; rfl
  have h0 : (st 0).2 = [] := by rw [← hst]; rfl
  refine r_for (J := InvS w base os mb L' L oL mu led a P it xs st) xs.sum ?turn ?last
    (InvS.of ⟨R0, rv0, nr0, [], 0, hR0, by rw [h0]; exact .nil, by simpa using S10⟩)
  case turn =>
    intro i s11 hi11 hJ
    obtain ⟨R, rv, nr, pv, np, hRv, hPv, S11⟩ := hJ
    have hrl : rv.length = xs.length := by rw [hRv.length, List.length_map, hlens]
    have hrw := hrows i
    have hrs := hlens i
    refine nx_range S11 .head (by omega) ?_
    intro t12 s12 S12
    have e1 : (i : Int) + 1 = ((i + 1 : Nat) : Int) := by omega
    have e2 : (xs.sum : Int) - i - 1 = (xs.sum : Int) - ((i + 1 : Nat) : Int) := by omega
    rw [e1, e2] at S12
    refine ⟨_, rfl, ?_⟩
    refine wpAny_assign_Name (st_l S12 ?_ (m' := locS a (some (.ref P)) (some (.int i t12)) none none))
    intro s13 S13
    refine wpAny_execs_cons ?_
    refine comp_asg (fun D => locS a (some (.ref P)) (some (.int i t12)) (some (.ref D)) none) (c_R S13 [("rows", L' + 1)] (fun _ => isI) (fun k => if (st i).1.getD k 0 = k + 2 then some (k : Int) else none) rv.length (by omega) hh ?it2 ?st2 (fun _ _ _ _ _ z => z)) ?fin2
    case it2 =>
      intro Q' k
      refine Call_ ?_
      refine n_b (.type "range") S13 ?_
      refine PyProof.Rows.callWith_type1 ?_
      refine args_cons ?_
      refine Call_ ?_
      refine n_b (.builtin "len") S13 ?_
      refine callWith_method1 ?_
      refine args_cons (n_c (L' + 1) S13 ?_)
      refine args_nil ?_
      refine r_lenL (n := nr) S13 (kn_mu (by walk_at "mem")) (by omega) ?_
      intro t14 s14 S14
      refine args_nil ?_
      refine r_range1 S14 ?_
      intro r t1 t2 s' S'
      exact k r _ _ _ s' S'
    case st2 =>
      intro Lc D us n oL2 news2 it2 o s14 k t hk hnd2 S14
      have hkl : k < (st i).1.length := by omega
      obtain ⟨v, hv, t15, rfl⟩ := hRv.get (getD_map_dots _ _ hkl)
      have hb2 := hrw _ (getD_mem' hkl)
      refine t_one ?_
      refine wpAny_isTrue_Compare1 ?_
      refine Call_ ?_
      refine n_b (.builtin "len") S14 ?_
      refine callWith_method1 ?_
      refine args_cons ?_
      refine Subscript_ ?_
      refine n_c (L' + 1) S14 ?_
      refine n_l S14 ?_
      refine r_itemL k (n := nr) S14 (kn_mu (by walk_at "mem")) rfl (by omega) hv (by with_unfolding_all rfl) ?_
      refine args_nil ?_
      refine r_lenStr S14 (le_sz (by rw [dots_length]; omega)) ?_
      intro t16 s15 S15
      rw [dots_length]
      refine wpAny_BinOp ?_
      refine n_l S15 ?_
      refine r_int S15 fun t17 s16 S16 => ?_
      refine r_add S16 ?_
      intro t18 s17 S17
      refine PySem.P.eq_int ?_
      refine wpAny_truthy_bool ?_
      by_cases hc : (st i).1.getD k 0 = k + 2
      · have : (((st i).1.getD k 0 : Nat) : Int) = (k : Int) + 2 := by omega
        rw [this, beq_self_eq_true, if_pos rfl]
        refine n_l S17 ?_
        exact ⟨(k : Int), [], by rw [if_pos hc], by simp, ⟨t, rfl⟩, S17⟩
      · have : ((((st i).1.getD k 0 : Nat) : Int) == (k : Int) + 2) = false := by
          rw [beq_eq_false_iff_ne]; omega
        rw [this, if_neg (by decide)]
        exact ⟨by rw [if_neg hc], S17⟩
    case fin2 =>
    intro rp rpv nrp news2 s14 hnd2 hR2 S14
    replace S14 := S14.ledSub (led' := (L, oL) :: led) fun p hp => List.mem_append.mpr (.inr hp)
    have hR3 : RI rpv (rI (ripeL (st i).1)) := by
      have e : (List.range rv.length).filterMap (fun k => if (st i).1.getD k 0 = k + 2 then some (k : Int) else none) = rI (ripeL (st i).1) := by
        unfold ripeL rI
        rw [List.map_filterMap, hrl, hrs]
        congr 1
        funext k
        split <;> rfl
      rw [e] at hR2
      exact hR2
    clear hR2
    refine wpAny_execs_cons ?_
    refine wpAny_If ?_
    refine wpAny_isTrue_Compare1 ?_
    refine n_l S14 ?_
    refine List_ (args_nil (r_newList S14 ?_ (by kernel_rfl)))
    intro e s15 S15
    refine r_neI (ys := []) S15 (kn_mu (by walk_at "mem")) (kn_mu (.head _)) hR3 .nil hA1 (by omega) ?_
    refine wpAny_truthy_bool ?_
    have hst1 := hstep i
    unfold sowStep at hst1
    cases hrip : ripeL (st i).1 with
    | nil =>
      rw [show (!(rI [] == ([] : List Int))) = false from rfl, if_neg (by decide)]
      refine wpAny_execs_nil ?_
      refine wpAny_execs_nil ?_
      rw [hrip] at hst1
      refine InvS.of ⟨R, rv, nr, pv, np, by rw [hst1]; exact hRv, by rw [hst1]; exact hPv, ?_⟩
      have S16 : At (cx w base os mb) L' (locS a (some (.ref P)) (some (.int i t12)) (some (.ref rp)) none) ((it, rngO ((i + 1 : Nat) : Int) ((xs.sum : Int) - ((i + 1 : Nat) : Int)) 1) :: (P, W.listOf pv.toArray np) :: (R, W.listOf rv.toArray nr) :: (L' + 1, cellO (some (.ref R))) :: mu) ((L, oL) :: led) s15 := S15.pick
      exact locS_sub S16
    | cons k0 rest =>
      rw [show (!(rI (k0 :: rest) == ([] : List Int))) = true from rfl, if_pos rfl]
      rw [hrip] at hst1 hR3
      have hk0 := ripe_mem (rs := (st i).1) (k := k0) (by rw [hrip]; exact .head _)
      have hrpl : rpv.length ≤ 1000000 := by
        rw [hR3.length, ← hrip]
        unfold rI ripeL
        rw [List.length_map]
        refine Nat.le_trans (List.length_filterMap_le _ _) ?_
        rw [List.length_range]; omega
      obtain ⟨v0, hv0, t16, rfl⟩ := hR3.get (i := 0) (y := (k0 : Int)) rfl
      refine wpAny_execs_cons ?_
      refine wpAny_Expr ?_ (by kernel_rfl) (by kernel_rfl)
      refine MethodCall_ ?_
      refine n_l S15 ?_
      refine r_methL (o := W.listOf pv.toArray np) S15 (S15.muGet (by walk_at "mem")) rfl rfl li_append li_appendT ?_
      refine callWith_method1 ?_
      refine args_cons ?_
      refine wpAny_BinOp ?_
      refine Subscript_ ?_
      refine n_l S15 ?_
      refine r_int S15 fun t17 s17 S17 => ?_
      refine r_itemL 0 (n := nrp) S17 (kn_mu (by walk_at "mem")) rfl hrpl hv0 (by with_unfolding_all rfl) ?_
      refine r_int S17 fun t18 s18 S18 => ?_
      refine r_add S18 ?_
      intro t19 s19 S19
      refine args_nil ?_
      refine r_appendL (b := P) (vs := pv) (n := np) (mu' := (e, W.listOf [].toArray 0) :: (rp, W.listOf rpv.toArray nrp) :: (it, rngO ((i + 1 : Nat) : Int) ((xs.sum : Int) - ((i + 1 : Nat) : Int)) 1) :: (P, W.listOf (pv ++ [Value.int ((k0 : Int) + 1) t19]).toArray (np + 1)) :: (R, W.listOf rv.toArray nr) :: (L' + 1, cellO (some (.ref R))) :: mu) S19 (by walk_at "setm") (by rw [hPv.length]; have := hpits i; simp [rI]; omega) ?_
      intro s20 S20
      have hPv' : RI (pv ++ [Value.int ((k0 : Int) + 1) t19]) (rI (st (i + 1)).2) := by
        rw [hst1]
        have := hPv.snoc (y := ((k0 + 1 : Nat) : Int)) (v := .int ((k0 : Int) + 1) t19) ⟨t19, by rw [show ((k0 + 1 : Nat) : Int) = (k0 : Int) + 1 by omega]⟩
        simpa [rI] using this
      generalize pv ++ [Value.int ((k0 : Int) + 1) t19] = pv' at *
      have S21 : At (cx w base os mb) L' (locS a (some (.ref P)) (some (.int i t12)) (some (.ref rp)) none) ((rp, W.listOf rpv.toArray nrp) :: (it, rngO ((i + 1 : Nat) : Int) ((xs.sum : Int) - ((i + 1 : Nat) : Int)) 1) :: (P, W.listOf pv'.toArray (np + 1)) :: (R, W.listOf rv.toArray nr) :: (L' + 1, cellO (some (.ref R))) :: mu) ((L, oL) :: led) s20 := S20.pick
      clear S20 S19 S18 S17 S15 S14 S13 S12 S11
      refine wpAny_execs_cons ?_
      refine comp_asg (fun D => locS a (some (.ref P)) (some (.int i t12)) (some (.ref rp)) (some (.ref D))) (c_R S21 [("rows", L' + 1)] (fun _ => isS) (fun k => some (dots ((st i).1.getD k 0) ++ endS k)) k0 (by omega) hh ?it3 ?st3 (fun _ _ _ _ _ z => z)) ?fin3
      case it3 =>
        intro Q' k
        refine Call_ ?_
        refine n_b (.type "range") S21 ?_
        refine PyProof.Rows.callWith_type1 ?_
        refine args_cons ?_
        refine Subscript_ ?_
        refine n_l S21 ?_
        refine r_int S21 fun t22 s22 S22 => ?_
        refine r_itemL 0 (n := nrp) S22 (kn_mu (by walk_at "mem")) rfl hrpl hv0 (by with_unfolding_all rfl) ?_
        refine args_nil ?_
        refine r_range1 S22 ?_
        intro r t1 t2 s' S'
        exact k r _ _ _ s' S'
      case st3 =>
        intro Lc D us n oL3 news3 it3 o s22 k t hk hnd3 S22
        have hkl : k < (st i).1.length := by omega
        obtain ⟨v, hv, t23, rfl⟩ := hRv.get (getD_map_dots _ _ hkl)
        have hb3 := hrw _ (getD_mem' hkl)
        refine t_nil ?_
        rw [if_pos rfl]
        refine wpAny_BinOp ?_
        refine Subscript_ ?_
        refine n_c (L' + 1) S22 ?_
        refine n_l S22 ?_
        refine r_itemL k (n := nr) S22 (kn_mu (by walk_at "mem")) rfl (by omega) hv (by with_unfolding_all rfl) ?_
        refine Subscript_ ?_
        refine Tuple_ ?_
        refine args_cons (r_str S22 fun u1 s23 S23 => ?_)
        refine args_cons (r_str S23 fun u2 s24 S24 => ?_)
        refine args_cons (r_str S24 fun u3 s25 S25 => ?_)
        refine args_nil ?_
        refine r_newTuple S25 ?_ (by kernel_rfl)
        intro tp s26 S26
        refine wpAny_BinOp ?_
        refine n_l S26 ?_
        refine r_int S26 fun u4 s27 S27 => ?_
        refine r_mod S27 (by decide) ?_
        intro u5 s28 S28
        have hm3 : Int.fmod (k : Int) 3 = ((k % 3 : Nat) : Int) := by
          rw [Int.fmod_eq_emod_of_nonneg _ (by decide)]; omega
        rw [hm3]
        have hk3 : k % 3 < 3 := Nat.mod_lt _ (by decide)
        have hRt : RS [.str "\n" u1, .str "\u000d" u2, .str "\u000d\n" u3] ends3 := .cons ⟨_, rfl⟩ (.cons ⟨_, rfl⟩ (.cons ⟨_, rfl⟩ .nil))
        obtain ⟨ve, hve, u6, rfl⟩ := hRt.get (i := k % 3) (y := endS k) (by
          unfold endS
          have : k % 3 < ends3.length := hk3
          simp [List.getD, List.getElem?_eq_getElem this])
        refine r_itemT S28 (j := k % 3) (.head _) (by omega) (by omega) (by simp [seqIndex?]; omega) hve (by with_unfolding_all rfl) ?_
        have hel := endS_len k
        refine r_cat S28 (le_sz (by rw [dots_length]; omega)) ?_
        intro u7 s29 S29
        exact ⟨_, [], rfl, by simp, ⟨u7, rfl⟩, S29.ledSub fun p hp => .tail _ hp⟩
      case fin3 =>
      intro ah av nah news3 s22 hnd3 hRa S22
      replace S22 := S22.ledSub (led' := (L, oL) :: led) fun p hp => List.mem_append.mpr (.inr hp)
      rw [reps_all] at hRa
      have hRa' : RS av (aheadOf (st i).1 k0) := hRa
      have htx := sown_text (b := 51 + i) (rs := (st i).1) (i := k0) hrw (by omega)
      have hjl : ((aheadOf (st i).1 k0).map (·.length)).sum ≤ 30 * 200 := by
        refine Nat.le_trans (sum_le (b := 200) fun x hx => ?_) ?_
        · obtain ⟨y, hy, rfl⟩ := List.mem_map.mp hx
          obtain ⟨k, hk, rfl⟩ := List.mem_map.mp hy
          have h1 := hrw _ (getD_mem' (l := (st i).1) (i := k) (by have := List.mem_range.mp hk; omega))
          have h2 := endS_len k
          rw [Str.length_append, dots_length]
          omega
        · simp [aheadOf]; omega
      have hjs := join_len (aheadOf (st i).1 k0)
      generalize aheadOf (st i).1 k0 = ahd at *
      refine wpAny_execs_cons ?_
      refine wpAny_Assign_Name ?_
      refine wpAny_BinOp ?_
      refine wpAny_BinOp ?_
      refine Subscript_ ?_
      refine MethodCall_ ?_
      refine Call_ ?_
      refine n_g (.ref 55) S22 ?_
      refine callWith_K S22.inK kp_quote ?_
      refine args_cons ?_
      refine MethodCall_ ?_
      refine r_str S22 fun t23 s23 S23 => ?_
      refine GM.join ?_
      refine callWith_method1 ?_
      refine args_cons (n_l S23 ?_)
      refine args_nil ?_
      refine join_list (S23.knIsList (n := nah) (kn_mu (.head _))) hRa'.strs (by rw [show ("" : Str).length = 0 from by decide +kernel]; omega) fun t24 k24 => ?_
      have S24 := S23.toks k24
      rw [show Txt.join "" ahd = Str.join "" ahd from StrLaws.glued_eq_join _ _]
      refine args_nil ?_
      refine ⟨S24.inK, ?_⟩
      have hcs := crlfP_size (Str.join "" ahd)
      refine quote_spec S24 (by rw [hjs]; omega) (by omega) hA1 (by omega) ?_
      intro t25 s25 htk25 S25
      refine GM.split ?_
      refine callWith_method1 ?_
      refine args_cons (r_str S25 fun t26 s26 S26 => ?_)
      refine args_nil ?_
      have hqs := quoteP_size (Str.join "" ahd)
      refine r_split S26 (by decide +kernel) (by show (quoteP (Str.join "" ahd)).cps.size ≤ _; omega) ?_
      intro D l s27 hl S27
      rw [htx] at hl
      have hsl : (strValues l).length = k0 + 1 := by
        have := congrArg List.length hl
        simp only [List.length_map, List.length_append, List.length_take, List.length_cons, List.length_nil] at this
        simp [strValues]
        omega
      have hsv : RS ((strValues l).take k0) (((st i).1.take k0).map fun r => dots (r + 1)) := by
        have := (rs_values l).take k0
        rw [hl, List.take_left' (by simp; omega)] at this
        exact this
      refine r_Slice ?_
      refine wpAny_pure ?_
      show wpAny _ _ (eval _ _) _ _ _
      refine wpAny_UnaryOp ?_
      refine r_int S27 fun t28 s28 S28 => ?_
      refine PyProof.Rows.neg_int ?_
      refine ⟨_, _, _, _, S28.toks (s28.toks + 1), fun q s30 S30 => ?_⟩
      refine r_sliceL (vs := strValues l) (n := 0) ((strValues l).take k0) S30 (kn_mu (.head _)) (.head _) .none (.int _ _) (by omega) (by rw [show k0 = (strValues l).length - 1 by omega]; exact slicePick_but1 _) (by with_unfolding_all rfl) ?_
      intro b s31 S31
      generalize (strValues l).take k0 = lv at *
      have hlvl : lv.length ≤ 100 := by rw [hsv.length]; simp; omega
      refine List_ ?_
      refine args_cons (r_str S31 fun t32 s32 S32 => ?_)
      refine args_nil ?_
      refine r_newList S32 ?_ (by kernel_rfl)
      intro dl s33 S33
      refine r_addL (vs := lv) (ws := [Value.str "." t32]) (n := 0) (k := 0) S33 (kn_mu (by walk_at "mem")) (kn_mu (.head _)) (by simp; omega) ?_
      intro b2 s34 S34
      refine Subscript_ ?_
      refine n_c (L' + 1) S34 ?_
      refine r_Slice ?_
      show wpAny _ _ (eval _ _) _ _ _
      refine wpAny_BinOp ?_
      refine Subscript_ ?_
      refine n_l S34 ?_
      refine r_int S34 fun t35 s35 S35 => ?_
      refine r_itemL 0 (n := nrp) S35 (kn_mu (by walk_at "mem")) rfl hrpl hv0 (by with_unfolding_all rfl) ?_
      refine r_int S35 fun t36 s36 S36 => ?_
      refine r_add S36 ?_
      intro t37 s37 S37
      refine wpAny_pure ?_
      refine ⟨_, _, _, _, S37, fun q2 s38 S38 => ?_⟩
      refine r_sliceL (vs := rv) (n := nr) (rv.drop (k0 + 1)) S38 (kn_mu (by walk_at "mem")) (.head _) (.int _ _) .none (by omega) (by rw [show (k0 : Int) + 1 = ((k0 + 1 : Nat) : Int) by omega]; exact slicePick_from' _ _) (by with_unfolding_all rfl) ?_
      intro b3 s39 S39
      refine r_addL (vs := lv ++ [Value.str "." t32]) (ws := rv.drop (k0 + 1)) (n := 0) (k := 0) S39 (kn_mu (by walk_at "mem")) (kn_mu (.head _)) (by simp; omega) ?_
      intro b4 s40 S40
      have hnew : RS (lv ++ [Value.str "." t32] ++ rv.drop (k0 + 1)) ((st (i + 1)).1.map dots) := by
        rw [hst1]
        show RS _ ((moveR (st i).1 k0).map dots)
        unfold moveR
        rw [List.map_append, List.map_cons, List.map_map, List.map_drop, List.append_assoc]
        exact hsv.append (.cons ⟨t32, by rw [show dots 1 = "." from by decide +kernel]⟩ (hRv.drop (k0 + 1)))
      generalize lv ++ [Value.str "." t32] ++ rv.drop (k0 + 1) = nv at *
      have S41 : At (cx w base os mb) L' (locS a (some (.ref P)) (some (.int i t12)) (some (.ref rp)) (some (.ref ah))) ((b4, W.listOf nv.toArray 0) :: (it, rngO ((i + 1 : Nat) : Int) ((xs.sum : Int) - ((i + 1 : Nat) : Int)) 1) :: (P, W.listOf pv'.toArray (np + 1)) :: (L' + 1, cellO (some (.ref R))) :: mu) ((L, oL) :: led) s40 := S40.pick
      refine st_c (L' + 1) (some (.ref R)) S41 ?_ (mu' := (b4, W.listOf nv.toArray 0) :: (it, rngO ((i + 1 : Nat) : Int) ((xs.sum : Int) - ((i + 1 : Nat) : Int)) 1) :: (P, W.listOf pv'.toArray (np + 1)) :: (L' + 1, cellO (some (.ref b4))) :: mu)
      intro s42 S42
      refine wpAny_execs_nil ?_
      refine wpAny_execs_nil ?_
      exact InvS.of ⟨b4, nv, 0, pv', np + 1, hnew, hPv', (locS_sub S42).rot3⟩
  case last =>
    intro s11 hJ
    obtain ⟨R, rv, nr, pv, np, hRv, hPv, S11⟩ := hJ
    refine nx_rangeEnd S11 (.head _) (List.sublist_cons_self _ _) (List.nodup_cons.mp S11.nod).1 hh (by omega) ?_
    intro s12 S12
    refine ⟨rfl, ?_⟩
    refine wpAny_execs_nil ?_
    refine wpAny_execs_cons ?_
    refine wpAny_Return_some ?_
    refine Tuple_ ?_
    refine args_cons (n_c (L' + 1) S12 ?_)
    refine args_cons (n_l S12 ?_)
    refine args_nil ?_
    refine r_newTuple S12 ?_ (by kernel_rfl)
    intro t s13 S13
    have hso : sownOf xs = st xs.sum := by unfold sownOf; rw [hst]
    refine h t R P rv pv nr np s13 (by rw [hso]; exact hRv) (by rw [hso]; exact hPv) ?_
    have S14 : At (cx w base os mb) L' (locS a (some (.ref P)) none none none) ((P, W.listOf pv.toArray np) :: (R, W.listOf rv.toArray nr) :: mu) ((t, tupO [.ref R, .ref P]) :: (L, oL) :: led) s13 := S13.pick
    exact hb.ret S S14.rot2 (.tail _ (.head _)) (mem_all_cons ⟨.head _, .inr rfl⟩ fun p hp => ⟨.tail _ (.tail _ hp), .inl hp⟩)
end
/- LbC02 -/
set_option autoImplicit false
section
variable {w : World} {base : Heap} {os : OsState} {mb : Str → Option Value} {L : Addr} {m : Loc} {mu led : List (Addr × Obj)} {s : Shared} {A : Around} {E : Value → Shared → Prop} {Q : Value → Shared → Prop} {d : Nat}
set_option maxHeartbeats 2000000
/-- a formatter in the midst of words -/
def FmtAt (w : World) (base : Heap) (os : OsState) (mb : Str → Option Value) (f : Fmt) (L : Addr) (m : Loc) (mu led : List (Addr × Obj)) (done : List (List Nat)) (cs : List Nat) (dot : Bool) (s : Shared) : Prop :=
  ∃ (ps : List Part) (n : Nat) (t u : Tok) (ls : List (Str × Tok)) (nl : Nat), fps ps = wps cs ++ dotP dot ∧ ls.map (·.1) = done.map rowS ∧ PartsIn led ps ∧
    At (cx w base os mb) L m ((f.acc, accO 212 f.dA (refsOf ps) n) :: (f.dA, accD w t 0 u) :: (f.ln, W.listOf (strValues ls).toArray nl) :: mu) led s
theorem semi_sp : Txt.isspace ⟨#[59]⟩ = false := by decide +kernel
theorem e0len : ("" : Str).length = 0 := by decide +kernel
theorem e1len : ("." : Str).length = 1 := by decide +kernel
theorem PartsIn.mono {l l' : List (Addr × Obj)} {ps : List Part} (h : PartsIn l ps) (hl : ∀ p ∈ l, p ∈ l') : PartsIn l' ps := fun q hq => hl _ (h q hq)
/-- one chunk -/
theorem chunk_words {f : Fmt} {T more : Nat} {done : List (List Nat)} {cs : List Nat} {dot : Bool} {x y : Str} {tx ty : Tok} (S : FmtAt w base os mb f L m mu led done cs dot s) (hF : (f.F, f.obj 128) ∈ led) (hD : (f.dF, f.dict w) ∈ led)
    (hT : 1 ≤ T) (hT2 : T ≤ 100) (hmore : more ≤ 2) (hmax : f.maxlen = ((3 * T + more : Nat) : Int)) (hsc : f.sc = ⟨#[59]⟩) (hcs : cs.length ≤ T) (hdone : done.length ≤ 100) (hx : x = "") (hA : AOk A d) (hd : d ≤ 430)
    (tl : List (Str × Str)) (tl' : List (Str × Str)) (cs' : List Nat) (hyl : y.length = if dot then 2 else 1)
    (htl : dotP dot ++ [(x, y)] = tl) (hfit : wps cs ++ tl = wps cs' ++ dotP (!dot)) (cs2 : List Nat) (hcut : tl = wps cs2 ++ dotP (!dot)) (hhd : ∃ r, tl = (("" : Str), ("." : Str)) :: r)
    (h : ∀ a s', FmtAt w base os mb f L m mu ((a, tupO [.str x tx, .str y ty]) :: led) (if 3 * cs.length + (if dot then 3 else 1) ≤ 3 * T + more then done else done ++ [cs]) (if 3 * cs.length + (if dot then 3 else 1) ≤ 3 * T + more then cs' else cs2) (!dot) s' → Q .none s') :
    wpAny (cx w base os mb).M A (call (.ref 125) [.ref f.F, .str x tx, .str y ty]) Q E s := by
  obtain ⟨ps, n, t, u, ls, nl, hps, hls, hpi, S⟩ := S
  have hlen := lenOf_words hps
  have hcnt := count_words hps
  have hll : ls.length = done.length := by have := congrArg List.length hls; simpa using this
  have hx0 : x.length = 0 := by rw [hx]; exact e0len
  have hw3 : lenOf ps + x.length + y.length = 3 * cs.length + (if dot then 3 else 1) := by
    rw [hlen, hx0, hyl]
    cases dot <;> simp
  have hfps : ∀ a, fps (ps ++ [mkP a x y tx ty]) = wps cs ++ tl := fun a => by
    rw [fps_append, hps, List.append_assoc]
    show wps cs ++ (dotP dot ++ [(x, y)]) = _
    rw [htl]
  have hpsl : ps.length = 2 * cs.length + (if dot then 1 else 0) := hcnt
  have hdl : (if dot = true then 1 else 0) ≤ 1 := by cases dot <;> simp
  have hdl3 : (if dot = true then 3 else 1) ≤ 3 := by cases dot <;> simp
  have hpi' : ∀ a, PartsIn ((a, tupO [.str x tx, .str y ty]) :: led) (ps ++ [mkP a x y tx ty]) := fun a q hq => by
    rcases List.mem_append.mp hq with hq | hq
    · exact .tail _ (hpi q hq)
    · cases List.mem_singleton.mp hq; exact .head _
  refine chunk_spec (ch := 59) (sp := false) S hF hD hpi (small_of hps) (by omega) (by rw [hyl]; cases dot <;> simp) (by omega) (by omega) (by omega) hsc (by decide) semi_sp hA hd ?_ ?_ ?_
  · intro hle a n' s' S'
    rw [hmax] at hle
    have hle' : 3 * cs.length + (if dot then 3 else 1) ≤ 3 * T + more := by omega
    have := h a s'
    rw [if_pos hle', if_pos hle'] at this
    exact this ⟨_, n', t, u, ls, nl, by rw [hfps, hfit], hls, hpi' a, S'⟩
  · intro hgt a i n' u' t' s' h1 hi hcut1 hcut2 S'
    rw [hmax] at hgt
    have hgt' : ¬ (3 * cs.length + (if dot then 3 else 1) ≤ 3 * T + more) := by omega
    have hcsT : cs.length = T := by cases dot <;> simp at hgt' hdl3 <;> omega
    obtain ⟨r, htr⟩ := hhd
    have hi2 : i = 2 * cs.length := by
      have c1 := cut_even (hfps a) (m := cs.length - 1) (by omega)
      rw [show 2 * (cs.length - 1) + 2 = 2 * cs.length by omega] at c1
      have c2 := cut_dot (ps := ps ++ [mkP a x y tx ty]) (cs := cs) (tl := r) (by rw [hfps, htr])
      rcases Nat.lt_trichotomy i (2 * cs.length) with q | q | q
      · have := hcut2 (2 * cs.length) q (by omega)
        rw [this] at c1; cases c1
      · exact q
      · have : i = 2 * cs.length + 1 := by omega
        rw [this, c2] at hcut1; cases hcut1
    subst hi2
    have := h a s'
    rw [if_neg hgt', if_neg hgt'] at this
    have hw2 : (wps cs).length = 2 * cs.length := wps_length cs
    refine this ⟨_, n', t, u', _, nl + 1, ?_, ?_, fun q hq => hpi' a q (List.mem_of_mem_drop hq), S'⟩
    · rw [fps_drop, hfps, List.drop_left' hw2, hcut]
    · have ht : fps ((ps ++ [mkP a x y tx ty]).take (2 * cs.length)) = wps cs := by rw [fps_take, hfps, List.take_left' hw2]
      rw [List.map_append, List.map_append, hls]
      show done.map rowS ++ [textOf _] = done.map rowS ++ [rowS cs]
      rw [textOf_words ht]
  · intro hgt a n' s' hno
    rw [hmax] at hgt
    exfalso
    have hcsT : cs.length = T := by cases dot <;> simp at hw3 <;> omega
    have c1 := cut_even (hfps a) (m := cs.length - 1) (by omega)
    rw [show 2 * (cs.length - 1) + 2 = 2 * cs.length by omega, hno (2 * cs.length) (by omega) (by omega)] at c1
    cases c1
theorem word_dot {f : Fmt} {T more : Nat} {done : List (List Nat)} {cs : List Nat} {tx ty : Tok} (S : FmtAt w base os mb f L m mu led done cs false s) (hF : (f.F, f.obj 128) ∈ led) (hD : (f.dF, f.dict w) ∈ led)
    (hT : 1 ≤ T) (hT2 : T ≤ 100) (hmore : more ≤ 2) (hmax : f.maxlen = ((3 * T + more : Nat) : Int)) (hsc : f.sc = ⟨#[59]⟩) (hcs : cs.length ≤ T) (hdone : done.length ≤ 100) (hA : AOk A d) (hd : d ≤ 430)
    (h : ∀ a s', FmtAt w base os mb f L m mu ((a, tupO [.str "" tx, .str "." ty]) :: led) (if 3 * cs.length + 1 ≤ 3 * T + more then done else done ++ [cs]) (if 3 * cs.length + 1 ≤ 3 * T + more then cs else []) true s' → Q .none s') :
    wpAny (cx w base os mb).M A (call (.ref 125) [.ref f.F, .str "" tx, .str "." ty]) Q E s :=
  chunk_words S hF hD hT hT2 hmore hmax hsc hcs hdone rfl hA hd [("", ".")] [] cs (by exact e1len) rfl rfl [] rfl ⟨[], rfl⟩ h
theorem word_name {f : Fmt} {T more : Nat} {done : List (List Nat)} {cs : List Nat} {c : Nat} {tx ty : Tok} (S : FmtAt w base os mb f L m mu led done cs true s) (hF : (f.F, f.obj 128) ∈ led) (hD : (f.dF, f.dict w) ∈ led)
    (hT : 1 ≤ T) (hT2 : T ≤ 100) (hmore : more ≤ 2) (hmax : f.maxlen = ((3 * T + more : Nat) : Int)) (hsc : f.sc = ⟨#[59]⟩) (hcs : cs.length ≤ T) (hdone : done.length ≤ 100) (hA : AOk A d) (hd : d ≤ 430)
    (h : ∀ a s', FmtAt w base os mb f L m mu ((a, tupO [.str "" tx, .str ⟨#[c, 59]⟩ ty]) :: led) (if cs.length < T then done else done ++ [cs]) (if cs.length < T then cs ++ [c] else [c]) false s' → Q .none s') :
    wpAny (cx w base os mb).M A (call (.ref 125) [.ref f.F, .str "" tx, .str ⟨#[c, 59]⟩ ty]) Q E s := by
  refine chunk_words S hF hD hT hT2 hmore hmax hsc hcs hdone rfl hA hd [("", "."), ("", ⟨#[c, 59]⟩)] [] (cs ++ [c]) rfl rfl ?_ [c] rfl ⟨_, rfl⟩ ?_
  · show _ = _ ++ []
    rw [List.append_nil, wps_append]; rfl
  · intro a s' S'
    have e : (3 * cs.length + (if true = true then 3 else 1) ≤ 3 * T + more) ↔ cs.length < T := by
      rw [if_pos rfl]; omega
    by_cases q : cs.length < T
    · have q' := e.mpr q
      rw [if_pos q', if_pos q'] at S'
      have := h a s'
      rw [if_pos q, if_pos q] at this
      exact this S'
    · have q' := fun z => q (e.mp z)
      rw [if_neg q', if_neg q'] at S'
      have := h a s'
      rw [if_neg q, if_neg q] at this
      exact this S'
/-- both chunks of a word -/
theorem word_step {T more : Nat} {done : List (List Nat)} {cs : List Nat} {c : Nat} (hT : 2 ≤ T) (hmore : more ≤ 2) (hcs : cs.length ≤ T) (d1 : List (List Nat)) (c1 : List Nat) (e1 : d1 = if 3 * cs.length + 1 ≤ 3 * T + more then done else done ++ [cs]) (e2 : c1 = if 3 * cs.length + 1 ≤ 3 * T + more then cs else []) :
    (if c1.length < T then d1 else d1 ++ [c1], if c1.length < T then c1 ++ [c] else [c]) = stepF T (done, cs) c ∧ c1.length ≤ T := by
  unfold stepF
  by_cases h1 : 3 * cs.length + 1 ≤ 3 * T + more
  · rw [if_pos h1] at e1 e2
    subst e1 e2
    refine ⟨?_, hcs⟩
    split <;> rfl
  · rw [if_neg h1] at e1 e2
    subst e1 e2
    have : ¬ cs.length < T := by omega
    refine ⟨?_, Nat.zero_le _⟩
    rw [if_pos (show ([] : List Nat).length < T by simp; omega), if_neg this, if_pos (show ([] : List Nat).length < T by simp; omega)]
    rfl
theorem vf_chunk : findIn (KF w) (.ref 128) "_append_chunk" = some (some (.ref 125)) := by kernel_rfl
theorem fn_chunk : typeIn (KF w) (.ref 125) = some (.type "function") := by kernel_rfl
theorem kp_chunk : keepIn (KF w) (.ref 125) = true := by kernel_rfl
theorem vf_strm : findIn (KF w) (.ref 128) "_str" = some (some (.ref 76)) := by kernel_rfl
theorem fn_strm : typeIn (KF w) (.ref 76) = some (.type "function") := by kernel_rfl
theorem kp_strm : keepIn (KF w) (.ref 76) = true := by kernel_rfl
theorem li_extend : findIn (KF w) (.type "list") "extend" = some (some (.builtin "list.extend")) := by kernel_rfl
theorem li_extendT : typeIn (KF w) (.builtin "list.extend") = some (.type "method_descriptor") := by kernel_rfl
theorem li_sort : findIn (KF w) (.type "list") "sort" = some (some (.builtin "list.sort")) := by kernel_rfl
theorem li_sortT : typeIn (KF w) (.builtin "list.sort") = some (.type "method_descriptor") := by kernel_rfl
abbrev locT (cn mo : Value) (ln rm sk mk nm se wo he : Option Value) : Loc := [("count", some cn), ("more", some mo), ("line", ln), ("rooms", rm), ("struck", sk), ("maker", mk), ("name", nm), ("sent", se), ("words", wo), ("heads", he)]
theorem locT_sub {cn mo : Value} {ln rm sk mk nm se wo he : Option Value} (mk' : Option Value) (S : At (cx w base os mb) L (locT cn mo ln rm sk mk nm se wo he) mu led s) (hm : mk' = mk ∨ mk' = none) : At (cx w base os mb) L (locT cn mo ln rm sk mk' none none none none) mu led s := by
  refine S.locSub rfl fun x v h => ?_
  rcases List.mem_cons.mp h with e | h
  · cases e; exact .head _
  rcases List.mem_cons.mp h with e | h
  · cases e; exact .tail _ (.head _)
  rcases List.mem_cons.mp h with e | h
  · cases e; exact .tail _ (.tail _ (.head _))
  rcases List.mem_cons.mp h with e | h
  · cases e; exact .tail _ (.tail _ (.tail _ (.head _)))
  rcases List.mem_cons.mp h with e | h
  · cases e; exact .tail _ (.tail _ (.tail _ (.tail _ (.head _))))
  rcases List.mem_cons.mp h with e | h
  · rcases hm with q | q
    · cases e; rw [q]; exact .tail _ (.tail _ (.tail _ (.tail _ (.tail _ (.head _)))))
    · rw [q] at e; cases e
  simp at h
/-- the rounds' loop -/
def InvA (w : World) (base : Heap) (os : OsState) (mb : Str → Option Value) (L' L : Addr) (oL : Obj) (mu led : List (Addr × Obj)) (it rm sk : Addr) (count more : Nat) (t1 t2 : Tok) (st : Nat → Rnd) (i : Nat) (s' : Shared) : Prop :=
  ∃ (tv : Option Value) (ln : Addr) (lv : List Value) (nl : Nat) (rv : List Value) (nr : Nat) (sv : List Value) (ns : Nat) (news : List (Addr × Obj)), (∀ p ∈ news, isDictB p.2 = false) ∧ RS lv ((st i).line.map codeS) ∧ RI rv (st i).rooms ∧ Reps (wordR (news ++ (L, oL) :: led)) sv (st i).struck ∧
    At (cx w base os mb) L' (locT (.int (count : Int) t1) (.int (more : Int) t2) (some (.ref ln)) (some (.ref rm)) (some (.ref sk)) none none none none none) ((it, rngO ((i + 1 : Nat) : Int) ((count : Int) - i) 1) :: (sk, W.listOf sv.toArray ns) :: (rm, W.listOf rv.toArray nr) :: (ln, W.listOf lv.toArray nl) :: (L' + 1, cellO tv) :: mu) (news ++ (L, oL) :: led) s'
theorem InvA.of {w : World} {base : Heap} {os : OsState} {mb : Str → Option Value} {L' L : Addr} {oL : Obj} {mu led : List (Addr × Obj)} {it rm sk : Addr} {count more : Nat} {t1 t2 : Tok} {st : Nat → Rnd} {i : Nat} {s' : Shared} (h : ∃ (tv : Option Value) (ln : Addr) (lv : List Value) (nl : Nat) (rv : List Value) (nr : Nat) (sv : List Value) (ns : Nat) (news : List (Addr × Obj)), (∀ p ∈ news, isDictB p.2 = false) ∧ RS lv ((st i).line.map codeS) ∧ RI rv (st i).rooms ∧ Reps (wordR (news ++ (L, oL) :: led)) sv (st i).struck ∧
    At (cx w base os mb) L' (locT (.int (count : Int) t1) (.int (more : Int) t2) (some (.ref ln)) (some (.ref rm)) (some (.ref sk)) none none none none none) ((it, rngO ((i + 1 : Nat) : Int) ((count : Int) - i) 1) :: (sk, W.listOf sv.toArray ns) :: (rm, W.listOf rv.toArray nr) :: (ln, W.listOf lv.toArray nl) :: (L' + 1, cellO tv) :: mu) (news ++ (L, oL) :: led) s') : InvA w base os mb L' L oL mu led it rm sk count more t1 t2 st i s' := h
/-- the words' loop -/
def InvB (w : World) (base : Heap) (os : OsState) (mb : Str → Option Value) (L' : Addr) (mu ledT : List (Addr × Obj)) (it rm sk ln it2 : Addr) (count more i : Nat) (t1 t2 t16 : Tok) (f : Fmt) (sv rv lv : List Value) (ns nr nl : Nat) (line : List Nat) (j : Nat) (s' : Shared) : Prop :=
  ∃ (o2 : Obj) (news2 : List (Addr × Obj)), ItL ln j o2 ∧ (∀ p ∈ news2, isDictB p.2 = false) ∧
      FmtAt w base os mb f L' (locT (.int (count : Int) t1) (.int (more : Int) t2) (some (.ref ln)) (some (.ref rm)) (some (.ref sk)) (some (.ref f.F)) none none none none) ((it2, o2) :: (it, rngO ((i + 1 + 1 : Nat) : Int) ((count : Int) - ((i + 1 : Nat) : Int)) 1) :: (sk, W.listOf sv.toArray ns) :: (rm, W.listOf rv.toArray nr) :: (ln, W.listOf lv.toArray nl) :: (L' + 1, cellO (some (.int ((i + 1 : Nat) : Int) t16))) :: mu) (news2 ++ (f.F, f.obj 128) :: (f.dF, f.dict w) :: ledT) (foldF (i + 1 + 1) (line.take j)).1 (foldF (i + 1 + 1) (line.take j)).2 false s'
theorem InvB.of {w : World} {base : Heap} {os : OsState} {mb : Str → Option Value} {L' : Addr} {mu ledT : List (Addr × Obj)} {it rm sk ln it2 : Addr} {count more i : Nat} {t1 t2 t16 : Tok} {f : Fmt} {sv rv lv : List Value} {ns nr nl : Nat} {line : List Nat} {j : Nat} {s' : Shared} (h : ∃ (o2 : Obj) (news2 : List (Addr × Obj)), ItL ln j o2 ∧ (∀ p ∈ news2, isDictB p.2 = false) ∧
      FmtAt w base os mb f L' (locT (.int (count : Int) t1) (.int (more : Int) t2) (some (.ref ln)) (some (.ref rm)) (some (.ref sk)) (some (.ref f.F)) none none none none) ((it2, o2) :: (it, rngO ((i + 1 + 1 : Nat) : Int) ((count : Int) - ((i + 1 : Nat) : Int)) 1) :: (sk, W.listOf sv.toArray ns) :: (rm, W.listOf rv.toArray nr) :: (ln, W.listOf lv.toArray nl) :: (L' + 1, cellO (some (.int ((i + 1 : Nat) : Int) t16))) :: mu) (news2 ++ (f.F, f.obj 128) :: (f.dF, f.dict w) :: ledT) (foldF (i + 1 + 1) (line.take j)).1 (foldF (i + 1 + 1) (line.take j)).2 false s') : InvB w base os mb L' mu ledT it rm sk ln it2 count more i t1 t2 t16 f sv rv lv ns nr nl line j s' := h
theorem struck_spec {count more : Nat} {t1 t2 : Tok} (S : At (cx w base os mb) L m mu led s) (hc : count ≤ 30) (hmore : more ≤ 2) (hA : AOk A d) (hd : d ≤ 400)
    (h : ∀ (qs : List (Nat × Nat)) t R P rv pv nr np s', qs.Perm (rndI count count).struck → qs.Pairwise (fun a b => b.1 ≤ a.1) → RI rv (rndI count count).rooms → RI pv (rI (qs.map (·.2))) → At (cx w base os mb) L m ((R, W.listOf rv.toArray nr) :: (P, W.listOf pv.toArray np) :: mu) ((t, tupO [.ref R, .ref P]) :: led) s' → Q (.ref t) s') :
    wpAny (cx w base os mb).M A (call (.ref 231) [.int (count : Int) t1, .int (more : Int) t2]) Q E s := by
  refine r_defK S hA ?a1 (f := 231) (fd := fdA w 231) ?a2 ?a3 (by rfl) (binds := [("count", .int (count : Int) t1), ("more", .int (more : Int) t2)]) ?a4 ?a5 (fun n => [("turn", n)]) (fun n => [(n, cellO none)]) ?a6 ?a7 ?a8 ?a9 (locT (.int (count : Int) t1) (.int (more : Int) t2) none none none none none none none none) ?a10 ?a11 ?a12 ?a13 ?a14 ?_
  case a8 =>
    intro n x hx
    rcases List.mem_cons.mp hx with rfl | hx
    · exact .inl (by kernel_rfl)
    · cases List.mem_singleton.mp hx
      exact .inl (by kernel_rfl)
  walk_at "defk"
  intro L' oL s1 S1 hb hA1
  simp only [List.cons_append, List.nil_append] at S1
  have hh := hA1.handled
  refine wpAny_execs_cons ?_
  refine Assign_Tuple_swapped (names := ["line", "rooms", "struck"]) ?_ (by kernel_rfl) (by kernel_rfl)
  refine Tuple_ ?_
  refine args_cons ?_
  refine comp_eval (c_R S1 [] (fun _ => isS) (fun k => some (codeS (97 + k))) count (by omega) hh ?it1 ?st1 (fun _ _ _ _ _ z => z)) ?fin1
  case it1 =>
    intro Q' k
    refine Call_ ?_
    refine n_b (.type "range") S1 ?_
    refine PyProof.Rows.callWith_type1 ?_
    refine args_cons (n_l S1 ?_)
    refine args_nil ?_
    refine r_range1 S1 ?_
    intro r t1 t2 s' S'
    exact k r _ _ _ s' S'
  case st1 =>
    intro Lc D us n oL2 news it o s2 i t hi hnd S2
    refine t_nil ?_
    rw [if_pos rfl]
    refine Call_ ?_
    refine n_b (.builtin "chr") S2 ?_
    refine callWith_method1 ?_
    refine args_cons ?_
    refine wpAny_BinOp ?_
    refine r_int S2 fun u1 s3 S3 => ?_
    refine n_l S3 ?_
    refine r_add S3 ?_
    intro u2 s4 S4
    refine args_nil ?_
    refine r_chr S4 (by simp; omega) ?_
    intro u3 s5 S5
    refine ⟨_, [], rfl, by simp, ⟨u3, ?_⟩, S5⟩
    rw [show ((97 : Int) + (i : Int)).toNat = 97 + i by omega]; rfl
  case fin1 =>
  intro ln0 lv0 nl0 news s2 hnd hR S2
  replace S2 := S2.ledSub (led' := (L, oL) :: led) fun p hp => List.mem_append.mpr (.inr hp)
  rw [reps_all] at hR
  have hR0 : RS lv0 ((rndI count 0).line.map codeS) := by
    have : (rndI count 0).line.map codeS = (List.range count).map fun k => codeS (97 + k) := by
      show ((List.range count).map (97 + ·)).map codeS = _
      rw [List.map_map]; rfl
    rw [this]; exact hR
  clear hR
  refine args_cons (List_ (args_nil (r_newList S2 ?_ (by kernel_rfl))))
  intro rm s3 S3
  refine args_cons (List_ (args_nil (r_newList S3 ?_ (by kernel_rfl))))
  intro sk s4 S4
  refine args_nil ?_
  refine r_newTuple S4 ?_ (by kernel_rfl)
  intro tp s5 S5
  refine r_unpackItems S5 hh (.head _) rfl ?_
  intro s6 S6
  refine assignInOrder_cons (bindName_ (st_l S6 ?_ (m' := locT (.int (count : Int) t1) (.int (more : Int) t2) none none (some (.ref sk)) none none none none none)))
  intro s7 S7
  refine assignInOrder_cons (bindName_ (st_l S7 ?_ (m' := locT (.int (count : Int) t1) (.int (more : Int) t2) none (some (.ref rm)) (some (.ref sk)) none none none none none)))
  intro s8 S8
  refine assignInOrder_cons (bindName_ (st_l S8 ?_ (m' := locT (.int (count : Int) t1) (.int (more : Int) t2) (some (.ref ln0)) (some (.ref rm)) (some (.ref sk)) none none none none none)))
  intro s9 S9
  refine assignInOrder_nil ?_
  replace S9 := S9.ledSub (led' := (L, oL) :: led) fun p hp => .tail _ hp
  have hperm := rnd_perm count
  have hwords : ∀ i, WordsOk (rndI count i).line := fun i c hc => by
    have := (hperm i).mem_iff.mp (List.mem_append.mpr (.inl hc))
    obtain ⟨k, hk, rfl⟩ := List.mem_map.mp this
    have := List.mem_range.mp hk
    omega
  have hll : ∀ i, (rndI count i).line.length ≤ 30 ∧ (rndI count i).struck.length ≤ 30 := fun i => by
    have := (hperm i).length_eq
    simp only [List.length_append, List.length_map, List.length_range] at this
    omega
  have hstep : ∀ i, rndI count (i + 1) = turnOf (i + 1) (rndI count i) := fun i => rfl
  have hroom := rnd_rooms count
  have hroom : ∀ i, (rndI count i).rooms.length ≤ i := hroom
  have h00 : (rndI count 0).rooms = [] ∧ (rndI count 0).struck = [] := ⟨rfl, rfl⟩
  generalize hrnd : rndI count = st at *
  refine wpAny_execs_cons ?_
  refine wpAny_For ?_
  refine Call_ ?_
  refine n_b (.type "range") S9 ?_
  refine PyProof.Rows.callWith_type1 ?_
  refine args_cons (r_int S9 fun t10 s10 S10 => ?_)
  refine args_cons ?_
  refine wpAny_BinOp ?_
  refine n_l S10 ?_
  refine r_int S10 fun t11 s11 S11 => ?_
  refine r_add S11 ?_
  intro t12 s12 S12
  refine args_nil ?_
  refine r_range2 S12 ?_
  intro r13 t13 s13 S13
  refine it_rangeN (N := count) S13 (by omega) (by decide) (by omega) ?_
  intro it s14 S14
  clear S1 S2 S3 S4 S5 S6 S7 S8 S9 S10 S11 S12 S13
  refine r_for (J := InvA w base os mb L' L oL mu led it rm sk count more t1 t2 st) count ?turn ?last
    (InvA.of ⟨none, ln0, lv0, nl0, [], 0, [], 0, [], (fun _ h => nomatch h), hR0, by rw [h00.1]; exact .nil, by rw [h00.2]; exact .nil, by simpa using S14⟩)
  case turn =>
    intro i s15 hi15 hJ
    clear S14
    obtain ⟨tv, ln, lv, nl, rv, nr, sv, ns, news, hnews, hLv, hRv, hSv, S15⟩ := hJ
    have hw := hwords i
    have hl2 := hll i
    have hst1 := hstep i
    refine nx_range S15 .head (by omega) ?_
    intro t16 s16 S16
    have e1 : ((i + 1 : Nat) : Int) + 1 = ((i + 1 + 1 : Nat) : Int) := by omega
    have e2 : (count : Int) - i - 1 = (count : Int) - ((i + 1 : Nat) : Int) := by omega
    rw [e1, e2] at S16
    refine ⟨_, rfl, ?_⟩
    refine wpAny_assign_Name (st_c (L' + 1) tv S16 ?_ (mu' := (it, rngO ((i + 1 + 1 : Nat) : Int) ((count : Int) - ((i + 1 : Nat) : Int)) 1) :: (sk, W.listOf sv.toArray ns) :: (rm, W.listOf rv.toArray nr) :: (ln, W.listOf lv.toArray nl) :: (L' + 1, cellO (some (.int ((i + 1 : Nat) : Int) t16))) :: mu))
    intro s17 S17
    generalize hled : news ++ (L, oL) :: led = ledT at *
    refine wpAny_execs_cons ?_
    refine wpAny_If ?_
    refine wpAny_isTrue_Compare1 ?_
    refine n_l S17 ?_
    refine List_ (args_nil (r_newList S17 ?_ (by kernel_rfl)))
    intro e s18 S18
    refine r_neS (ys := []) (n := nl) S18 (kn_mu (by walk_at "mem")) (kn_mu (.head _)) hLv .nil (fun x hx => by
      obtain ⟨c, hc, rfl⟩ := List.mem_map.mp hx
      exact strOk_code (hw c hc).2) (fun _ h => nomatch h) hA1 (by omega) ?_
    refine wpAny_truthy_bool ?_
    replace S18 := S18.muTail
    by_cases hne : (st i).line = []
    · rw [hne, show (!(([] : List Nat).map codeS == ([] : List Str))) = false from rfl, if_neg (by decide)]
      refine wpAny_execs_nil ?_
      refine wpAny_execs_nil ?_
      unfold turnOf at hst1
      rw [if_pos hne] at hst1
      subst hled
      exact InvA.of ⟨_, ln, lv, nl, rv, nr, sv, ns, news, hnews, by rw [hst1]; exact hLv, by rw [hst1]; exact hRv, by rw [hst1]; exact hSv, S18⟩
    have hbt : (!((st i).line.map codeS == ([] : List Str))) = true := by
      obtain ⟨c, l, e⟩ := List.exists_cons_of_ne_nil hne
      rw [e]; rfl
    rw [hbt, if_pos rfl]
    unfold turnOf at hst1
    rw [if_neg hne] at hst1
    have hrows := rowsF_ok (T := i + 1 + 1) (by omega) hne hw
    have hfok := foldF_ok (T := i + 1 + 1) (by omega) _ (st i).line rfl
    have hflen := foldF_len (T := i + 1 + 1) (by omega) (st i).line
    generalize hline : (st i).line = line at *
    refine wpAny_execs_cons ?_
    refine wpAny_Assign_Name ?_
    refine Call_ ?_
    refine n_g (.ref 128) S18 ?_
    refine callWith_K S18.inK kp_vf ?_
    refine args_cons (r_int S18 fun t19 s19 S19 => ?_)
    refine args_cons ?_
    refine wpAny_BinOp ?_
    refine wpAny_BinOp ?_
    refine wpAny_BinOp ?_
    refine r_int S19 fun t20 s20 S20 => ?_
    refine n_c (L' + 1) S20 ?_
    refine r_mul S20 (.of_left (by decide +kernel)) ?_
    intro t21 s21 S21
    refine r_int S21 fun t22 s22 S22 => ?_
    refine r_add S22 ?_
    intro t23 s23 S23
    refine n_l S23 ?_
    refine r_add S23 ?_
    intro t24 s24 S24
    refine args_cons (r_str S24 fun t25 s25 S25 => ?_)
    refine args_cons (r_str S25 fun t26 s26 S26 => ?_)
    refine args_nil ?_
    refine ⟨S26.inK, ?_⟩
    refine r_newFmt S26 (by decide +kernel) hA1 (by omega) ?_
    intro f tf uf nf nlf s27 hmax hsc S27
    have hmax' : f.maxlen = ((3 * (i + 1 + 1) + more : Nat) : Int) := by rw [hmax]; omega
    have hsc' : f.sc = ⟨#[59]⟩ := by rw [hsc]; decide +kernel
    clear hmax hsc S26 S25 S24 S23 S22 S21 S20 S19 S18 S17 S16 S15
    refine st_l S27 ?_ (m' := locT (.int (count : Int) t1) (.int (more : Int) t2) (some (.ref ln)) (some (.ref rm)) (some (.ref sk)) (some (.ref f.F)) none none none none)
    intro s28 S28
    clear S27
    refine wpAny_execs_cons ?_
    refine wpAny_For ?_
    refine n_l S28 ?_
    refine wpAny_pyIter_list (S28.knIsList (n := nl) (kn_mu (by walk_at "mem"))) ?_
    have S29 := (S28.pushM (o := { cls := .type "list_iterator", data := .fields #[.ref ln, .int 0 0] }) rfl).rot4
    generalize s28.heap.objs.size = it2 at *
    generalize ({ s28 with heap := s28.heap.push { cls := .type "list_iterator", data := .fields #[.ref ln, .int 0 0] } } : Shared) = s29 at *
    clear S28
    have hcode : ∀ {j c : Nat}, line[j]? = some c → ∃ t, lv[j]? = some (.str (codeS c) t) := fun {j c} h => by
      obtain ⟨v, e1, t, rfl⟩ := hLv.get (i := j) (y := codeS c) (by rw [List.getElem?_map, h]; rfl)
      exact ⟨t, e1⟩
    have hlvl : lv.length = line.length := by rw [hLv.length]; simp
    refine r_for (J := InvB w base os mb L' mu ledT it rm sk ln it2 count more i t1 t2 t16 f sv rv lv ns nr nl line) line.length ?turn2 ?last2
      (InvB.of ⟨_, [], ⟨rfl, rfl⟩, (fun _ h => nomatch h), [], nf, tf, uf, [], nlf, rfl, rfl, (fun _ h => nomatch h), S29⟩)
    case turn2 =>
      intro j s30 hj hJ2
      clear S29
      obtain ⟨o2, news2, hI, hn2, ps, n30, t30, u30, ls, nl30, hps, hls, hpi, S30⟩ := hJ2
      have hg : line[j]? = some line[j] := List.getElem?_eq_getElem hj
      generalize hcj : line[j] = c at hg
      obtain ⟨tc, hv⟩ := hcode hg
      have hcw := hw c (List.mem_of_getElem? hg)
      have hfj := foldF_ok (T := i + 1 + 1) (by omega) _ (line.take j) rfl
      have hcur := hfj.cur
      clear hfj
      have hfl := foldF_len (T := i + 1 + 1) (by omega) (line.take j)
      have htl : (line.take j).length ≤ 30 := by rw [List.length_take]; omega
      have hsnoc : foldF (i + 1 + 1) (line.take (j + 1)) = stepF (i + 1 + 1) ((foldF (i + 1 + 1) (line.take j)).1, (foldF (i + 1 + 1) (line.take j)).2) c := by
        rw [take_snoc hg, foldF_snoc]
      generalize (foldF (i + 1 + 1) (line.take j)).1 = done at *
      generalize (foldF (i + 1 + 1) (line.take j)).2 = cs at *
      refine nx_list (mu'' := fun o' => (f.acc, accO 212 f.dA (refsOf ps) n30) :: (f.dA, accD w t30 0 u30) :: (f.ln, W.listOf (strValues ls).toArray nl30) :: (it2, o') :: (it, rngO ((i + 1 + 1 : Nat) : Int) ((count : Int) - ((i + 1 : Nat) : Int)) 1) :: (sk, W.listOf sv.toArray ns) :: (rm, W.listOf rv.toArray nr) :: (ln, W.listOf lv.toArray nl) :: (L' + 1, cellO (some (.int ((i + 1 : Nat) : Int) t16))) :: mu) S30 (fun o' => .tail (.tail (.tail .head))) hI (S30.knIsSeq (n := nl) (kn_mu (by walk_at "mem"))) hv ?_
      intro o3 s31 hI3 S31
      refine ⟨_, rfl, ?_⟩
      refine wpAny_assign_Name (st_l S31 ?_ (m' := (locT (.int (count : Int) t1) (.int (more : Int) t2) (some (.ref ln)) (some (.ref rm)) (some (.ref sk)) (some (.ref f.F)) (some (.str (codeS c) tc)) none none none)))
      intro s32 S32
      have hFm : ∀ {x : List (Addr × Obj)}, (f.F, f.obj 128) ∈ x ++ (f.F, f.obj 128) :: (f.dF, f.dict w) :: ledT := fun {x} => List.mem_append.mpr (.inr (.head _))
      have hDm : ∀ {x : List (Addr × Obj)}, (f.dF, f.dict w) ∈ x ++ (f.F, f.obj 128) :: (f.dF, f.dict w) :: ledT := fun {x} => List.mem_append.mpr (.inr (.tail _ (.head _)))
      refine wpAny_execs_cons ?_
      refine wpAny_Expr ?_ (by kernel_rfl) (by kernel_rfl)
      refine MethodCall_ ?_
      refine n_l S32 ?_
      refine r_fm S32 hFm hDm vf_chunk fn_chunk (by kernel_rfl) ?_
      refine callWith_K S32.inK kp_chunk ?_
      refine args_cons (r_str S32 fun t33 s33 S33 => ?_)
      refine args_cons (r_str S33 fun t34 s34 S34 => ?_)
      refine args_nil ?_
      refine ⟨S34.inK, ?_⟩
      refine word_dot (T := i + 1 + 1) (more := more) (done := done) (cs := cs) ⟨ps, n30, t30, u30, ls, nl30, hps, hls, hpi, S34⟩ hFm hDm (by omega) (by omega) hmore hmax' hsc' hcur (by omega) hA1 (by omega) ?_
      intro a35 s35 X35
      clear S30 S31 S32 S33 S34
      obtain ⟨d1, e1d⟩ : ∃ d1, d1 = (if 3 * cs.length + 1 ≤ 3 * (i + 1 + 1) + more then done else done ++ [cs]) := ⟨_, rfl⟩
      obtain ⟨c1, e1c⟩ : ∃ c1, c1 = (if 3 * cs.length + 1 ≤ 3 * (i + 1 + 1) + more then cs else []) := ⟨_, rfl⟩
      rw [← e1d, ← e1c] at X35
      obtain ⟨hws, hc1⟩ := word_step (T := i + 1 + 1) (c := c) (by omega) hmore hcur d1 c1 e1d e1c
      have hd1 : d1.length ≤ 100 := by
        rw [e1d]
        split
        · omega
        · rw [List.length_append]; simp; omega
      obtain ⟨ps2, n35, t35, u35, ls2, nl35, hps2, hls2, hpi2, S35⟩ := X35
      refine wpAny_execs_cons ?_
      refine wpAny_Expr ?_ (by kernel_rfl) (by kernel_rfl)
      refine MethodCall_ ?_
      refine n_l S35 ?_
      refine r_fm S35 (.tail _ hFm) (.tail _ hDm) vf_chunk fn_chunk (by kernel_rfl) ?_
      refine callWith_K S35.inK kp_chunk ?_
      refine args_cons (r_str S35 fun t36 s36 S36 => ?_)
      refine args_cons ?_
      refine wpAny_BinOp ?_
      refine n_l S36 ?_
      refine r_str S36 fun t37 s37 S37 => ?_
      refine r_cat S37 (le_sz (by have h1 : (";" : Str).length = 1 := by decide +kernel
                                  have h2 : (codeS c).length = 1 := rfl
                                  omega)) ?_
      intro t38 s38 S38
      rw [show codeS c ++ ";" = (⟨#[c, 59]⟩ : Str) from str_ext (by rw [Str.cps_append, Array.toList_append, semi_cps]; rfl)]
      refine args_nil ?_
      refine ⟨S38.inK, ?_⟩
      refine word_name (T := i + 1 + 1) (more := more) (done := d1) (cs := c1) ⟨ps2, n35, t35, u35, ls2, nl35, hps2, hls2, hpi2, S38⟩ (.tail _ hFm) (.tail _ hDm) (by omega) (by omega) hmore hmax' hsc' hc1 hd1 hA1 (by omega) ?_
      intro a39 s39 X39
      refine wpAny_execs_nil ?_
      obtain ⟨ps3, n39, t39, u39, ls3, nl39, hps3, hls3, hpi3, S39⟩ := X39
      refine InvB.of ?_
      rw [hsnoc, ← hws]
      refine ⟨o3, (a39, tupO [.str "" t36, .str ⟨#[c, 59]⟩ t38]) :: (a35, tupO [.str "" t33, .str "." t34]) :: news2, hI3, fun p hp => ?_, ps3, n39, t39, u39, ls3, nl39, hps3, hls3, hpi3, locT_sub (some (.ref f.F)) S39 (.inl rfl)⟩
      rcases List.mem_cons.mp hp with rfl | hp
      · rfl
      rcases List.mem_cons.mp hp with rfl | hp
      · rfl
      exact hn2 p hp
    case last2 =>
    intro s30 hJ2
    clear S29
    obtain ⟨o2, news2, hI, hn2, ps, n30, t30, u30, ls, nl30, hps, hls, hpi, S30⟩ := hJ2
    rw [List.take_length] at hps hls
    have hFm : (f.F, f.obj 128) ∈ news2 ++ (f.F, f.obj 128) :: (f.dF, f.dict w) :: ledT := List.mem_append.mpr (.inr (.head _))
    have hDm : (f.dF, f.dict w) ∈ news2 ++ (f.F, f.obj 128) :: (f.dF, f.dict w) :: ledT := List.mem_append.mpr (.inr (.tail _ (.head _)))
    refine nx_listEnd (mu' := (f.acc, accO 212 f.dA (refsOf ps) n30) :: (f.dA, accD w t30 0 u30) :: (f.ln, W.listOf (strValues ls).toArray nl30) :: (it, rngO ((i + 1 + 1 : Nat) : Int) ((count : Int) - ((i + 1 : Nat) : Int)) 1) :: (sk, W.listOf sv.toArray ns) :: (rm, W.listOf rv.toArray nr) :: (ln, W.listOf lv.toArray nl) :: (L' + 1, cellO (some (.int ((i + 1 : Nat) : Int) t16))) :: mu) S30 (.tail _ (.tail _ (.tail _ (.head _)))) hI (.cons_cons _ (.cons_cons _ (.cons_cons _ (List.sublist_cons_self _ _)))) ?_ (S30.knIsSeq (n := nl) (kn_mu (by walk_at "mem"))) (List.getElem?_eq_none (by omega)) hh ?_
    · have := S30.nod
      simp only [List.map_cons, List.nodup_cons, List.mem_cons, not_or] at this ⊢
      exact ⟨fun e => this.1.2.2.1 e.symm, fun e => this.2.1.2.1 e.symm, fun e => this.2.2.1.1 e.symm, this.2.2.2.1⟩
    intro s31 S31
    clear S30
    refine ⟨rfl, ?_⟩
    refine wpAny_execs_nil ?_
    have hcurne := hfok.ne hne
    have hcurl := hfok.cur
    have hcurw : ∀ c ∈ (foldF (i + 1 + 1) line).2, 97 ≤ c ∧ c < 1000 := fun c hc => hw c (by rw [← hfok.flat]; exact List.mem_append.mpr (.inr hc))
    have hrowsE : rowsF (i + 1 + 1) line = (foldF (i + 1 + 1) line).1 ++ [(foldF (i + 1 + 1) line).2] := rfl
    clear hfok
    have hps' : fps ps = wps (foldF (i + 1 + 1) line).2 := by
      rw [hps]; show _ ++ [] = _; rw [List.append_nil]
    have hplen := lenOf_words hps
    have hpcnt := count_words hps
    simp only [Bool.false_eq_true, if_false, Nat.add_zero] at hplen hpcnt
    have hsmall := small_of hps
    have htext := textOf_words hps'
    obtain ⟨wl, c, hcm, hwl⟩ := wps_last hcurne
    generalize (foldF (i + 1 + 1) line).1 = done at *
    generalize (foldF (i + 1 + 1) line).2 = cur at *
    have hpne : ps ≠ [] := fun e => by
      rw [e] at hps'
      rw [hwl] at hps'
      simp [fps] at hps'
    obtain ⟨ps0, q, hpq⟩ : ∃ ps0 q, ps = ps0 ++ [q] := ⟨_, _, (List.dropLast_concat_getLast hpne).symm⟩
    subst hpq
    have hq : (q.f, q.p) = (("" : Str), (⟨#[c, 59]⟩ : Str)) := by
      rw [hwl, fps_append] at hps'
      have := List.append_inj_right' hps' rfl
      exact (List.cons.inj this).1
    have hqf : q.f = "" := congrArg Prod.fst hq
    have hqp : q.p = ⟨#[c, 59]⟩ := congrArg Prod.snd hq
    have hll2 : ls.length = done.length := by have := congrArg List.length hls; simpa using this
    have hcw := hcurw c hcm
    refine wpAny_execs_cons ?_
    refine wpAny_Assign_Name ?_
    refine Call_ ?_
    refine n_g (.ref 55) S31 ?_
    refine callWith_K S31.inK kp_quote ?_
    refine args_cons ?_
    refine MethodCall_ ?_
    refine n_l S31 ?_
    refine r_fm S31 hFm hDm vf_strm fn_strm (by kernel_rfl) ?_
    refine callWith_K S31.inK kp_strm ?_
    refine args_cons ?_
    refine Subscript_ ?_
    refine Tuple_ ?_
    refine args_cons (r_str S31 fun u1 s32 S32 => ?_)
    refine args_cons (r_str S32 fun u2 s33 S33 => ?_)
    refine args_cons (r_str S33 fun u3 s34 S34 => ?_)
    refine args_nil ?_
    refine r_newTuple S34 ?_ (by kernel_rfl)
    intro tp s35 S35
    refine wpAny_BinOp ?_
    refine n_c (L' + 1) S35 ?_
    refine r_int S35 fun u4 s36 S36 => ?_
    refine r_mod S36 (by decide) ?_
    intro u5 s37 S37
    have hm3 : Int.fmod ((i + 1 : Nat) : Int) 3 = (((i + 1) % 3 : Nat) : Int) := by
      rw [Int.fmod_eq_emod_of_nonneg _ (by decide)]; omega
    rw [hm3]
    have hk3 : (i + 1) % 3 < 3 := Nat.mod_lt _ (by decide)
    have hRt : RS [.str "\n" u1, .str "\u000d" u2, .str "\u000d\n" u3] ends3 := .cons ⟨_, rfl⟩ (.cons ⟨_, rfl⟩ (.cons ⟨_, rfl⟩ .nil))
    obtain ⟨ve, hve, u6, rfl⟩ := hRt.get (i := (i + 1) % 3) (y := endS (i + 1)) (by
      unfold endS
      have : (i + 1) % 3 < ends3.length := hk3
      simp [List.getD, List.getElem?_eq_getElem this])
    refine r_itemT S37 (j := (i + 1) % 3) (.head _) (by omega) (by omega) (by simp [seqIndex?]; omega) hve (by with_unfolding_all rfl) ?_
    refine args_nil ?_
    refine ⟨S37.inK, ?_⟩
    have hel := endS_len (i + 1)
    have hsl : ∀ r : List Nat, (rowS r).length = 3 * r.length := fun r => by
      have : (rowS r).length = (rowS r).cps.toList.length := by simp [Str.length]
      rw [this, rowS_list, rowText_len]
    have hsum : ((done.map rowS).map (·.length)).sum + (rowS cur).length ≤ 100 := by
      have h1 : (rowsF (i + 1 + 1) line).flatten.length ≤ 30 := by rw [hrows.2.2]; exact hl2.1
      rw [hrowsE, List.flatten_append, List.length_append] at h1
      have h2 : ∀ rs : List (List Nat), ((rs.map rowS).map (·.length)).sum = 3 * rs.flatten.length := by
        intro rs
        induction rs with
        | nil => rfl
        | cons r rs ih => rw [List.map_cons, List.map_cons, List.sum_cons, ih, hsl, List.flatten_cons, List.length_append]; omega
      rw [h2, hsl]
      rw [List.flatten_cons, List.flatten_nil, List.append_nil] at h1
      omega
    refine vstr_spec S37 (.tail _ hFm) (.tail _ hDm) (fun p hp => .tail _ (hpi p hp)) hsmall (by omega) (by omega) (by omega) (by rw [List.length_append] at hpcnt; omega) (by omega)
      (by rw [hqf, show (("" : Str) == " ") = false from by decide +kernel, Bool.false_and]) (by rw [hqf]; decide +kernel) (by rw [hqp]; unfold PyData.strOk; simp; omega) (by have := List.length_pos_iff.mpr hcurne; omega) (.inr ⟨rfl, by rw [htext]; exact rowS_space hcurne⟩)
      (by rw [htext, List.map_append, List.sum_append, hls]
          have h1 : (ls.length + 1) * (endS (i + 1)).length ≤ 100 * 2 := Nat.mul_le_mul (by omega) hel
          simp only [List.map_cons, List.map_nil, List.sum_cons, List.sum_nil]
          omega) hA1 (by omega) ?_
    intro n38 u38 t38 tr38 s38 S38
    rw [htext, hls, show done.map rowS ++ [rowS cur] = (rowsF (i + 1 + 1) line).map rowS from by rw [hrowsE]; simp]
    refine args_nil ?_
    refine ⟨S38.inK, ?_⟩
    have hjl : (Str.join (endS (i + 1)) ((rowsF (i + 1 + 1) line).map rowS)).cps.size ≤ 1000 := by
      refine Nat.le_trans (join_le _ _) ?_
      rw [hrowsE, List.map_append, List.map_append, List.sum_append]
      have h1 : (done.map rowS ++ [cur].map rowS).length * (endS (i + 1)).length ≤ 32 * 2 := Nat.mul_le_mul (by simp; omega) hel
      have h3 : (([cur].map rowS).map (·.length)).sum = (rowS cur).length := by simp
      rw [h3]
      omega
    have hq1 := crlfP_size (Str.join (endS (i + 1)) ((rowsF (i + 1 + 1) line).map rowS))
    have hq2 := quoteP_size (Str.join (endS (i + 1)) ((rowsF (i + 1 + 1) line).map rowS))
    have hsent := sent_words (endS (i + 1)) (endS_is (i + 1)) hrows.2.1 hrows.1
    have hwh := words_heads fun r hr => (hrows.1 r hr).1
    have hwl2 := wordsOf_length fun r hr => (hrows.1 r hr).2
    rw [hrows.2.2] at hwl2
    refine quote_spec S38 (by omega) (by omega) hA1 (by omega) ?_
    intro t39 s39 _ S39
    generalize Str.join (endS (i + 1)) ((rowsF (i + 1 + 1) line).map rowS) = mail at *
    have hql : (quoteP mail).length ≤ 10000 := by show (quoteP mail).cps.size ≤ _; omega
    have hrl := replace_len (quoteP mail)
    refine st_lT S39 ?_ (m' := (locT (.int (count : Int) t1) (.int (more : Int) t2) (some (.ref ln)) (some (.ref rm)) (some (.ref sk)) (some (.ref f.F)) none (some (.str (quoteP mail) t39)) none none))
    intro s40 htk40 S40
    clear S31 S32 S33 S34 S35 S36 S37 S38 S39
    refine wpAny_execs_cons ?_
    refine wpAny_Assign_Name ?_
    refine Subscript_ ?_
    refine MethodCall_ ?_
    refine MethodCall_ ?_
    refine n_l S40 ?_
    refine GM.replace ?_
    refine callWith_method1 ?_
    refine args_cons (r_strT S40 fun S41 => ?_)
    refine args_cons (r_strT S41 fun S42 => ?_)
    refine args_nil ?_
    refine r_replace S42 (Nat.pos_iff_ne_zero.mp htk40) (Nat.succ_ne_zero _) (Nat.ne_of_lt (Nat.lt_succ_self _)) (by decide +kernel) (by omega) (by decide +kernel) ?_
    intro t43 s43 S43
    refine GM.split ?_
    refine callWith_method1 ?_
    refine args_cons (r_str S43 fun t44 s44 S44 => ?_)
    refine args_nil ?_
    refine r_split S44 (by decide +kernel) (by omega) ?_
    intro D l s45 hl S45
    rw [hsent] at hl
    generalize hws0 : wordsOf (rowsF (i + 1 + 1) line) = ws0 at *
    have hsl2 : (strValues l).length = ws0.length + 1 := by
      have := congrArg List.length hl
      simp only [List.length_map, List.length_append, List.length_cons, List.length_nil] at this
      simp [strValues, this]
    have hwv : RS ((strValues l).take ws0.length) ws0 := by
      have := (rs_values l).take ws0.length
      rw [hl, List.take_left' rfl] at this
      exact this
    refine r_Slice ?_
    refine wpAny_pure ?_
    show wpAny _ _ (eval _ _) _ _ _
    refine wpAny_UnaryOp ?_
    refine r_int S45 fun t46 s46 S46 => ?_
    refine PyProof.Rows.neg_int ?_
    refine ⟨_, _, _, _, S46.toks (s46.toks + 1), fun qq s47 S47 => ?_⟩
    refine r_sliceL (vs := strValues l) (n := 0) ((strValues l).take ws0.length) S47 (kn_mu (.head _)) (.head _) .none (.int _ _) (by omega) (by rw [show ws0.length = (strValues l).length - 1 by omega]; exact slicePick_but1 _) (by with_unfolding_all rfl) ?_
    intro wa s48 S48
    generalize (strValues l).take ws0.length = wv at *
    have hwvl : wv.length = line.length := by rw [hwv.length, hwl2]
    have hws3 : ∀ k, k < ws0.length → (ws0.getD k "").length ≤ 1000000 := fun k hkl => by
      have hm : ws0.getD k "" ∈ ws0 := by rw [List.getD_eq_getElem?_getD, List.getElem?_eq_getElem hkl]; exact List.getElem_mem _
      generalize ws0.getD k "" = x at hm
      rw [← hws0] at hm
      obtain ⟨r, hr, hm⟩ := List.mem_flatMap.mp hm
      cases r with
      | nil => cases hm
      | cons c0 cs0 =>
        rcases List.mem_cons.mp hm with e | hm
        · rw [e]; show 3 ≤ _; omega
        · obtain ⟨c1, _, e⟩ := List.mem_map.mp hm
          rw [← e]; show 2 ≤ _; omega
    refine st_l S48 ?_ (m' := (locT (.int (count : Int) t1) (.int (more : Int) t2) (some (.ref ln)) (some (.ref rm)) (some (.ref sk)) (some (.ref f.F)) none (some (.str (quoteP mail) t39)) (some (.ref wa)) none))
    intro s49 S49
    have S50 : At (cx w base os mb) L' (locT (.int (count : Int) t1) (.int (more : Int) t2) (some (.ref ln)) (some (.ref rm)) (some (.ref sk)) (some (.ref f.F)) none (some (.str (quoteP mail) t39)) (some (.ref wa)) none) ((wa, W.listOf wv.toArray 0) :: (it, rngO ((i + 1 + 1 : Nat) : Int) ((count : Int) - ((i + 1 : Nat) : Int)) 1) :: (sk, W.listOf sv.toArray ns) :: (rm, W.listOf rv.toArray nr) :: (ln, W.listOf lv.toArray nl) :: (L' + 1, cellO (some (.int ((i + 1 : Nat) : Int) t16))) :: mu) ledT s49 :=
      (S49.muSub (by walk_at "subl")).ledSub fun p hp => .tail _ (.tail _ (List.mem_append.mpr (.inr (.tail _ (.tail _ hp)))))
    clear S40 S41 S42 S43 S44 S45 S46 S47 S48 S49
    refine wpAny_execs_cons ?_
    refine comp_asg (fun D => (locT (.int (count : Int) t1) (.int (more : Int) t2) (some (.ref ln)) (some (.ref rm)) (some (.ref sk)) (some (.ref f.F)) none (some (.str (quoteP mail) t39)) (some (.ref wa)) (some (.ref D)))) (c_L S50 [] (fun _ => isS) (fun k => hdOf (ws0.getD k "")) (ws := wv) (k := 0) (kn_mu (.head _)) (by omega) hh ?it5 ?st5 (fun _ _ _ _ _ z => z)) ?fin5
    case it5 =>
      intro Q' k
      exact n_l S50 (k _ S50)
    case st5 =>
      intro Lc D us n oL5 news5 it5 o s51 k v hv hnd5 S51
      have hkl : k < ws0.length := by rw [← hwv.length]; exact lt_of_some hv
      obtain ⟨v', e1, t, rfl⟩ := hwv.get (i := k) (y := ws0.getD k "") (by rw [List.getD_eq_getElem?_getD, List.getElem?_eq_getElem hkl]; rfl)
      rw [hv] at e1
      cases e1
      have hwl3 := hws3 k hkl
      refine t_one ?_
      refine wpAny_isTrue_Compare1 ?_
      refine Subscript_ ?_
      refine n_l S51 ?_
      refine r_Slice ?_
      refine wpAny_pure ?_
      show wpAny _ _ (eval _ _) _ _ _
      refine r_int S51 fun t52 s52 S52 => ?_
      refine ⟨_, _, _, _, S52, fun qq s53 S53 => ?_⟩
      refine r_sliceS none (some (((2 : Nat) : Int), t52)) S53 (.head _) hwl3 (by with_unfolding_all rfl) ?_
      intro t54 s54 S54
      refine r_str S54 fun t55 s55 S55 => ?_
      refine PyProof.Rows.eq_str ?_
      refine wpAny_truthy_bool ?_
      show (if hdB (ws0.getD k "") = true then _ else _)
      by_cases hb1 : hdB (ws0.getD k "") = true
      · rw [if_pos hb1]
        refine Subscript_ ?_
        refine n_l S55 ?_
        refine r_Slice ?_
        show wpAny _ _ (eval _ _) _ _ _
        refine r_int S55 fun t56 s56 S56 => ?_
        refine wpAny_pure ?_
        refine ⟨_, _, _, _, S56, fun qq2 s57 S57 => ?_⟩
        refine r_sliceS (some (((2 : Nat) : Int), t56)) none S57 (.head _) hwl3 (by with_unfolding_all rfl) ?_
        intro t58 s58 S58
        refine ⟨_, [], by unfold hdOf; rw [if_pos hb1]; rfl, by simp, ⟨t58, rfl⟩, S58.ledSub fun p hp => .tail _ (.tail _ hp)⟩
      · rw [if_neg hb1]
        exact ⟨by unfold hdOf; rw [if_neg hb1], S55.ledSub fun p hp => .tail _ hp⟩
    case fin5 =>
    intro ha hv nh news5 s51 hnd5 hRh S51
    replace S51 := S51.ledSub (led' := ledT) fun p hp => List.mem_append.mpr (.inr hp)
    rw [hwv.length, filterMap_at, hwh.1] at hRh
    have hhl : hv.length = (headsOf (rowsF (i + 1 + 1) line)).length := by rw [hRh.length]; simp
    have hhl2 : (headsOf (rowsF (i + 1 + 1) line)).length ≤ 30 := by
      have h1 := (heads_tails (rowsF (i + 1 + 1) line)).length_eq
      rw [hrows.2.2, List.length_append] at h1
      omega
    refine wpAny_execs_cons ?_
    refine comp_asg (fun D => (locT (.int (count : Int) t1) (.int (more : Int) t2) (some (.ref D)) (some (.ref rm)) (some (.ref sk)) (some (.ref f.F)) none (some (.str (quoteP mail) t39)) (some (.ref wa)) (some (.ref ha)))) (c_L S51 [] (fun _ => isS) (fun k => tlOf (ws0.getD k "")) (ws := wv) (k := 0) (kn_mu (.tail _ (.head _))) (by omega) hh ?it6 ?st6 (fun _ _ _ _ _ z => z)) ?fin6
    case it6 =>
      intro Q' k
      exact n_l S51 (k _ S51)
    case st6 =>
      intro Lc D us n oL6 news6 it6 o s52 k v hv hnd6 S52
      have hkl : k < ws0.length := by rw [← hwv.length]; exact lt_of_some hv
      obtain ⟨v', e1, t, rfl⟩ := hwv.get (i := k) (y := ws0.getD k "") (by rw [List.getD_eq_getElem?_getD, List.getElem?_eq_getElem hkl]; rfl)
      rw [hv] at e1
      cases e1
      have hwl3 := hws3 k hkl
      refine t_one ?_
      refine wpAny_isTrue_Compare1 ?_
      refine Subscript_ ?_
      refine n_l S52 ?_
      refine r_Slice ?_
      refine wpAny_pure ?_
      show wpAny _ _ (eval _ _) _ _ _
      refine r_int S52 fun t52 s53 S53 => ?_
      refine ⟨_, _, _, _, S53, fun qq s54 S54 => ?_⟩
      refine r_sliceS none (some (((2 : Nat) : Int), t52)) S54 (.head _) hwl3 (by with_unfolding_all rfl) ?_
      intro t54 s55 S55
      refine r_str S55 fun t55 s56 S56 => ?_
      refine PyProof.Rows.ne_str ?_
      refine wpAny_truthy_bool ?_
      by_cases hb1 : hdB (ws0.getD k "") = true
      · rw [show (Txt.slice (ws0.getD k "") (Option.map (fun x => x.1) (none : Option (Int × Tok))) (Option.map (fun x => x.1) (some (((2 : Nat) : Int), t52))) != "..") = false from by
          have : hdB (ws0.getD k "") = true := hb1
          unfold hdB at this
          simpa [bne] using this, if_neg (by decide)]
        exact ⟨by unfold tlOf; rw [if_pos hb1], S56.ledSub fun p hp => .tail _ hp⟩
      · rw [show (Txt.slice (ws0.getD k "") (Option.map (fun x => x.1) (none : Option (Int × Tok))) (Option.map (fun x => x.1) (some (((2 : Nat) : Int), t52))) != "..") = true from by
          have : ¬ hdB (ws0.getD k "") = true := hb1
          unfold hdB at this
          simpa [bne] using this, if_pos rfl]
        refine Subscript_ ?_
        refine n_l S56 ?_
        refine r_Slice ?_
        show wpAny _ _ (eval _ _) _ _ _
        refine r_int S56 fun t57 s57 S57 => ?_
        refine wpAny_pure ?_
        refine ⟨_, _, _, _, S57, fun qq2 s58 S58 => ?_⟩
        refine r_sliceS (some (((1 : Nat) : Int), t57)) none S58 (.head _) hwl3 (by with_unfolding_all rfl) ?_
        intro t59 s59 S59
        refine ⟨_, [], by unfold tlOf; rw [if_neg hb1]; rfl, by simp, ⟨t59, rfl⟩, S59.ledSub fun p hp => .tail _ (.tail _ hp)⟩
    case fin6 =>
    intro ln2 lv2 nl2 news6 s52 hnd6 hRt2 S52
    replace S52 := S52.ledSub (led' := ledT) fun p hp => List.mem_append.mpr (.inr hp)
    rw [hwv.length, filterMap_at, hwh.2] at hRt2
    refine wpAny_execs_cons ?_
    refine wpAny_Expr ?_ (by kernel_rfl) (by kernel_rfl)
    refine MethodCall_ ?_
    refine n_l S52 ?_
    refine r_methL (o := W.listOf rv.toArray nr) S52 (S52.muGet (by walk_at "mem")) rfl rfl li_append li_appendT ?_
    refine callWith_method1 ?_
    refine args_cons ?_
    refine wpAny_BinOp ?_
    refine wpAny_BinOp ?_
    refine wpAny_BinOp ?_
    refine n_c (L' + 1) S52 ?_
    refine r_int S52 fun t60 s60 S60 => ?_
    refine r_add S60 ?_
    intro t61 s61 S61
    refine Call_ ?_
    refine n_b (.builtin "len") S61 ?_
    refine callWith_method1 ?_
    refine args_cons (n_l S61 ?_)
    refine args_nil ?_
    refine r_lenL (vs := hv) (n := nh) S61 (kn_mu (by walk_at "mem")) (by omega) ?_
    intro t62 s62 S62
    refine r_mul S62 (.of_left (bits_small (by omega))) ?_
    intro t63 s63 S63
    refine Call_ ?_
    refine n_b (.builtin "len") S63 ?_
    refine callWith_method1 ?_
    refine args_cons (n_l S63 ?_)
    refine args_nil ?_
    refine r_lenL (vs := wv) (n := 0) S63 (kn_mu (by walk_at "mem")) (by omega) ?_
    intro t64 s64 S64
    refine r_sub S64 ?_
    intro t65 s65 S65
    refine args_nil ?_
    refine r_appendL (b := rm) (vs := rv) (n := nr) (mu' := (ln2, W.listOf lv2.toArray nl2) :: (ha, W.listOf hv.toArray nh) :: (wa, W.listOf wv.toArray 0) :: (it, rngO ((i + 1 + 1 : Nat) : Int) ((count : Int) - ((i + 1 : Nat) : Int)) 1) :: (sk, W.listOf sv.toArray ns) :: (rm, W.listOf (rv ++ [Value.int ((((i + 1 : Nat) : Int) + 1) * (hv.length : Int) - (wv.length : Int)) t65]).toArray (nr + 1)) :: (ln, W.listOf lv.toArray nl) :: (L' + 1, cellO (some (.int ((i + 1 : Nat) : Int) t16))) :: mu) S65 (by walk_at "setm") (by rw [hRv.length]; have := hroom i; omega) ?_
    intro s66 S66
    have hRv' : RI (rv ++ [Value.int ((((i + 1 : Nat) : Int) + 1) * (hv.length : Int) - (wv.length : Int)) t65]) (st (i + 1)).rooms := by
      rw [hst1]
      show RI _ ((st i).rooms ++ [_])
      refine hRv.snoc ⟨t65, ?_⟩
      rw [hhl, hwvl]
      congr 1
    generalize rv ++ [Value.int ((((i + 1 : Nat) : Int) + 1) * (hv.length : Int) - (wv.length : Int)) t65] = rv' at *
    refine wpAny_execs_cons ?_
    refine wpAny_Expr ?_ (by kernel_rfl) (by kernel_rfl)
    refine MethodCall_ ?_
    refine n_l S66 ?_
    refine r_methL (o := W.listOf sv.toArray ns) S66 (S66.muGet (by walk_at "mem")) rfl rfl li_extend li_extendT ?_
    refine callWith_method1 ?_
    refine args_cons ?_
    clear S52 S60 S61 S62 S63 S64 S65
    refine comp_eval (c_L S66 [("turn", L' + 1)] wordR (fun k => some ((headsOf (rowsF (i + 1 + 1) line)).getD k 0, i + 1)) (ws := hv) (k := nh) (kn_mu (.tail _ (.head _))) (by omega) hh ?it7 ?st7 (fun l l' y v h x => x.mono h)) ?fin7
    case it7 =>
      intro Q' k
      exact n_l S66 (k _ S66)
    case st7 =>
      intro Lc D us n oL7 news7 it7 o s67 k v hv7 hnd7 S67
      have hkl : k < (headsOf (rowsF (i + 1 + 1) line)).length := by rw [← hhl]; exact lt_of_some hv7
      obtain ⟨v', e1, t, rfl⟩ := hRh.get (i := k) (y := codeS ((headsOf (rowsF (i + 1 + 1) line)).getD k 0)) (by rw [List.getElem?_map, List.getElem?_eq_getElem hkl, List.getD_eq_getElem?_getD, List.getElem?_eq_getElem hkl]; rfl)
      rw [hv7] at e1
      cases e1
      refine t_nil ?_
      rw [if_pos rfl]
      refine Tuple_ ?_
      refine args_cons (n_l S67 ?_)
      refine args_cons (n_c (L' + 1) S67 ?_)
      refine args_nil ?_
      refine r_newTuple S67 ?_ (by kernel_rfl)
      intro a s68 S68
      exact ⟨_, [(a, tupO [.str (codeS ((headsOf (rowsF (i + 1 + 1) line)).getD k 0)) t, .int ((i + 1 : Nat) : Int) t16])], rfl, (fun p hp => by cases List.mem_singleton.mp hp; rfl), ⟨a, t, t16, rfl, .head _⟩, S68⟩
    case fin7 =>
    intro ex ev ne news7 s67 hnd7 hRe S67
    rw [hhl, reps_all] at hRe
    have hRe' : Reps (wordR (news7 ++ ledT)) ev ((headsOf (rowsF (i + 1 + 1) line)).map fun c => (c, i + 1)) := by
      have e : (List.range (headsOf (rowsF (i + 1 + 1) line)).length).map (fun k => ((headsOf (rowsF (i + 1 + 1) line)).getD k 0, i + 1)) = (headsOf (rowsF (i + 1 + 1) line)).map fun c => (c, i + 1) := by
        have e2 := take_getD (headsOf (rowsF (i + 1 + 1) line)) _ (Nat.le_refl _)
        rw [List.take_length] at e2
        conv => rhs; rw [e2]
        rw [List.map_map]; rfl
      rw [e] at hRe
      exact hRe
    clear hRe
    have hSv' : Reps (wordR (news7 ++ ledT)) (sv ++ ev) (st (i + 1)).struck := by
      rw [hst1]
      exact (hSv.mono fun y v x => x.mono fun p hp => List.mem_append.mpr (.inr hp)).append hRe'
    refine args_nil ?_
    refine r_extend (vs := sv) (ws := ev) (n := ns) (k := ne) (fun n' => (ex, W.listOf ev.toArray ne) :: (ln2, W.listOf lv2.toArray nl2) :: (ha, W.listOf hv.toArray nh) :: (wa, W.listOf wv.toArray 0) :: (it, rngO ((i + 1 + 1 : Nat) : Int) ((count : Int) - ((i + 1 : Nat) : Int)) 1) :: (sk, W.listOf (sv ++ ev).toArray n') :: (rm, W.listOf rv'.toArray (nr + 1)) :: (ln, W.listOf lv.toArray nl) :: (L' + 1, cellO (some (.int ((i + 1 : Nat) : Int) t16))) :: mu) S67 (fun n' => by walk_at "setm") (kn_mu (.head _)) (by rw [hSv.length, hRe'.length, List.length_map]; omega) ?_
    intro ns' s68 S68
    refine wpAny_execs_nil ?_
    refine wpAny_execs_nil ?_
    subst hled
    rw [← List.append_assoc] at S68 hSv'
    refine InvA.of ⟨some (.int ((i + 1 : Nat) : Int) t16), ln2, lv2, nl2, rv', nr + 1, sv ++ ev, ns', news7 ++ news, fun p hp => ?_, by rw [hst1]; exact hRt2, hRv', hSv', ?_⟩
    · rcases List.mem_append.mp hp with hp | hp
      · exact hnd7 p hp
      · exact hnews p hp
    · have S69 : At (cx w base os mb) L' _ ((ln2, W.listOf lv2.toArray nl2) :: (it, rngO ((i + 1 + 1 : Nat) : Int) ((count : Int) - ((i + 1 : Nat) : Int)) 1) :: (sk, W.listOf (sv ++ ev).toArray ns') :: (rm, W.listOf rv'.toArray (nr + 1)) :: (L' + 1, cellO (some (.int ((i + 1 : Nat) : Int) t16))) :: mu) (news7 ++ news ++ (L, oL) :: led) s68 := S68.muSub (by walk_at "subl")
      exact (locT_sub none S69 (.inr rfl)).rot4
  case last =>
    intro s15 hJ
    clear S14
    obtain ⟨tv, ln, lv, nl, rv, nr, sv, ns, news, hnews, hLv, hRv, hSv, S15⟩ := hJ
    have hl2 := hll count
    have hpc := hperm count
    refine nx_rangeEnd S15 (.head _) (List.sublist_cons_self _ _) (List.nodup_cons.mp S15.nod).1 hh (by omega) ?_
    intro s16 S16
    clear S15
    refine ⟨rfl, ?_⟩
    refine wpAny_execs_nil ?_
    refine wpAny_execs_cons ?_
    refine wpAny_Expr ?_ (by kernel_rfl) (by kernel_rfl)
    refine methodCall_KW ?_
    refine n_l S16 ?_
    refine r_methL (o := W.listOf sv.toArray ns) S16 (S16.muGet (by walk_at "mem")) rfl rfl li_sort li_sortT ?_
    refine callWith_kw0 ?_
    refine kws_cons (r_bool ?_)
    refine kws_nil ?_
    refine r_sortWords (qs := (st count).struck) (n := ns) (fun o => (sk, o) :: (rm, W.listOf rv.toArray nr) :: (ln, W.listOf lv.toArray nl) :: (L' + 1, cellO tv) :: mu) S16 (fun o o' => .head) hSv (by omega) ?_ ?_
    · have h1 : (((st count).line) ++ (st count).struck.map (·.1)).Nodup := hpc.nodup_iff.mpr (List.nodup_range.map _ (fun a b hab h => hab (by omega)))
      exact (List.nodup_append.mp h1).2.1
    intro sv' qs' e' s17 hq hqp hqo S17
    have hql : sv'.length ≤ 30 := by rw [hq.length, hqp.length_eq]; omega
    refine wpAny_execs_cons ?_
    refine wpAny_Return_some ?_
    refine Tuple_ ?_
    refine args_cons (n_l S17 ?_)
    refine args_cons ?_
    refine comp_eval (c_P S17 [] (fun _ => isI) (fun k => some (((qs'.getD k (0, 0)).2 : Nat) : Int)) (ws := sv') (k := e') (kn_mu (.head _)) (fun k _ v2 => ∃ u, v2 = .int (((qs'.getD k (0, 0)).2 : Nat) : Int) u) ?hp8 (by omega) hh ?it8 ?st8 (fun _ _ _ _ _ z => z)) ?fin8
    case hp8 =>
      intro k v hv8
      have hkl : k < qs'.length := by rw [← hq.length]; exact lt_of_some hv8
      obtain ⟨v', e1, a, t, u, rfl, hm⟩ := hq.get (i := k) (y := qs'.getD k (0, 0)) (by rw [List.getD_eq_getElem?_getD, List.getElem?_eq_getElem hkl]; rfl)
      rw [hv8] at e1
      cases e1
      exact ⟨a, _, _, rfl, hm, u, rfl⟩
    case it8 =>
      intro Q' k
      exact n_l S17 (k _ S17)
    case st8 =>
      intro Lc D us n oL8 news8 it8 o s18 k v1 v2 hk8 hP8 hnd8 S18
      obtain ⟨u, rfl⟩ := hP8
      refine t_nil ?_
      rw [if_pos rfl]
      refine n_l S18 ?_
      exact ⟨_, [], rfl, by simp, ⟨u, rfl⟩, S18⟩
    case fin8 =>
    intro D pv np news8 s18 hnd8 hRp S18
    rw [hq.length, reps_all] at hRp
    have hRp' : RI pv (rI (qs'.map (·.2))) := by
      have e : (List.range qs'.length).map (fun k => (((qs'.getD k (0, 0)).2 : Nat) : Int)) = rI (qs'.map (·.2)) := by
        apply List.ext_getElem (by simp [rI])
        intro j a1 a2
        simp only [List.length_map, List.length_range] at a1
        simp [rI, List.getD, List.getElem?_eq_getElem a1]
      rw [e] at hRp
      exact hRp
    refine args_nil ?_
    refine r_newTuple S18 ?_ (by kernel_rfl)
    intro t s19 S19
    refine h qs' t rm D rv pv nr np s19 hqp hqo hRv hRp' ?_
    have S20 : At (cx w base os mb) L' _ ((D, W.listOf pv.toArray np) :: (rm, W.listOf rv.toArray nr) :: mu) _ s19 := S19.muSub (by walk_at "subl")
    refine hb.ret S S20.rot2 (.tail _ (List.mem_append.mpr (.inr (List.mem_append.mpr (.inr (.head _)))))) (mem_all_cons ⟨.head _, .inr rfl⟩ fun p hp => ⟨.tail _ (List.mem_append.mpr (.inr (List.mem_append.mpr (.inr (.tail _ hp))))), .inl hp⟩)
end
/- Pl02 -/
set_option autoImplicit false
/-! the plain law -/
theorem sowI_shift (st : List Nat × List Nat) : ∀ n, sowI st (n + 1) = sowI (sowStep st) n
  | 0 => rfl
  | n + 1 => by
    show sowStep (sowI st (n + 1)) = sowStep (sowI (sowStep st) n)
    rw [sowI_shift st n]
def firstOne : List Nat → Option Nat
  | [] => none
  | r :: rs => if r = 1 then some 0 else (firstOne rs).map (· + 1)
def predR (rs : List Nat) : Option (List Nat) := (firstOne rs).map fun i => (rs.take i).map (· - 1) ++ (i + 2) :: rs.drop (i + 1)
def predO (len : Nat) : Nat → Option (List Nat)
  | 0 => some (List.replicate len 1)
  | n + 1 => (predO len n).bind predR
theorem firstOne_app : ∀ (a b : List Nat), (∀ x ∈ a, x ≠ 1) → firstOne (a ++ 1 :: b) = some a.length
  | [], _, _ => rfl
  | x :: a, b, h => by
    show (if x = 1 then some 0 else (firstOne (a ++ 1 :: b)).map (· + 1)) = _
    rw [if_neg (h x (.head _)), firstOne_app a b fun y hy => h y (.tail _ hy)]
    rfl
theorem pred_move {rs : List Nat} {i : Nat} (hi : i < rs.length) (hr : rs.getD i 0 = i + 2) (h1 : ∀ r ∈ rs, 1 ≤ r) : predR (moveR rs i) = some rs := by
  have hl : ((rs.take i).map (· + 1)).length = i := by simp; omega
  unfold predR moveR
  rw [firstOne_app _ _ (fun x hx => by
    obtain ⟨y, hy, rfl⟩ := List.mem_map.mp hx
    have := h1 y (List.mem_of_mem_take hy)
    omega), hl]
  show some (((List.map (· + 1) (rs.take i) ++ 1 :: rs.drop (i + 1)).take i).map (· - 1) ++ (i + 2) :: (List.map (· + 1) (rs.take i) ++ 1 :: rs.drop (i + 1)).drop (i + 1)) = some rs
  rw [List.take_left' hl, List.map_map]
  have e1 : List.map ((fun x => x - 1) ∘ fun x => x + 1) (rs.take i) = rs.take i := by
    have : ((fun x : Nat => x - 1) ∘ fun x => x + 1) = id := by funext x; simp
    rw [this, List.map_id]
  have e2 : (List.map (· + 1) (rs.take i) ++ 1 :: rs.drop (i + 1)).drop (i + 1) = rs.drop (i + 1) := by
    rw [List.drop_append, hl, List.drop_of_length_le (by omega), show i + 1 - i = 1 by omega]
    rfl
  rw [e1, e2, ← hr]
  congr 1
  have e3 : rs.getD i 0 :: rs.drop (i + 1) = rs.drop i := by
    rw [List.drop_eq_getElem_cons hi, List.getD_eq_getElem?_getD, List.getElem?_eq_getElem hi]; rfl
  rw [e3, List.take_append_drop]
theorem move_sum {rs : List Nat} {i : Nat} (hi : i < rs.length) (hr : rs.getD i 0 = i + 2) : (moveR rs i).sum + 1 = rs.sum := by
  have hl : (rs.take i).length = i := by simp; omega
  have e3 : rs.getD i 0 :: rs.drop (i + 1) = rs.drop i := by
    rw [List.drop_eq_getElem_cons hi, List.getD_eq_getElem?_getD, List.getElem?_eq_getElem hi]; rfl
  have e4 : rs.sum = (rs.take i).sum + ((i + 2) + (rs.drop (i + 1)).sum) := by
    conv => lhs; rw [← List.take_append_drop i rs, ← e3, hr]
    rw [List.sum_append, List.sum_cons]
  have e5 : ∀ l : List Nat, (l.map (· + 1)).sum = l.sum + l.length := by
    intro l
    induction l with
    | nil => rfl
    | cons a l ih => rw [List.map_cons, List.sum_cons, List.sum_cons, List.length_cons, ih]; omega
  unfold moveR
  rw [List.sum_append, List.sum_cons, e5, hl, e4]
  omega
theorem rep_sum (len : Nat) : (List.replicate len 1).sum = len := by
  induction len with
  | zero => rfl
  | succ n ih => rw [List.replicate_succ, List.sum_cons, ih]; omega
theorem win_pred (len : Nat) : ∀ (n : Nat) (rs : List Nat) (p : List Nat), rs.length = len → rs.sum = len + n → (∀ r ∈ rs, 1 ≤ r) → (sowI (rs, p) n).1 = List.replicate len 1 → predO len n = some rs
  | 0, rs, p, _, _, _, hw => by
    have : rs = List.replicate len 1 := hw
    rw [this]; rfl
  | n + 1, rs, p, hl, hs, h1, hw => by
    rw [sowI_shift] at hw
    cases hr : ripeL rs with
    | nil =>
      exfalso
      have e : sowStep (rs, p) = (rs, p) := by unfold sowStep; rw [hr]
      have stay : ∀ k, sowI (rs, p) k = (rs, p) := by
        intro k
        induction k with
        | zero => rfl
        | succ k ih => show sowStep (sowI (rs, p) k) = _; rw [ih, e]
      rw [e, stay] at hw
      have : rs.sum = len := by
        have hw' : rs = List.replicate len 1 := hw
        rw [hw', rep_sum]
      omega
    | cons i r =>
      have hm := ripe_mem (rs := rs) (k := i) (by rw [hr]; exact .head _)
      have e : sowStep (rs, p) = (moveR rs i, p ++ [i + 1]) := by unfold sowStep; rw [hr]
      rw [e] at hw
      have hsum := move_sum hm.1 hm.2
      have ih := win_pred len n (moveR rs i) (p ++ [i + 1]) ((move_len hm.1).trans hl) (by omega) (fun x hx => by
        unfold moveR at hx
        rcases List.mem_append.mp hx with hx | hx
        · obtain ⟨y, hy, rfl⟩ := List.mem_map.mp hx
          omega
        · rcases List.mem_cons.mp hx with rfl | hx
          · omega
          · exact h1 x (List.mem_of_mem_drop hx)) hw
      show (predO len n).bind predR = _
      rw [ih, Option.bind_some, pred_move hm.1 hm.2 h1]
def roomsL (n : Nat) : List Nat := (rndI n n).rooms.map Int.toNat
def insW (q : Nat × Nat) : List (Nat × Nat) → List (Nat × Nat)
  | [] => [q]
  | x :: r => if x.1 < q.1 then q :: x :: r else x :: insW q r
def sortW : List (Nat × Nat) → List (Nat × Nat)
  | [] => []
  | x :: r => insW x (sortW r)
def turnsL (n : Nat) : List Nat := (sortW (rndI n n).struck).map (·.2)
theorem insW_perm (q : Nat × Nat) : ∀ l, (insW q l).Perm (q :: l)
  | [] => List.Perm.refl _
  | x :: r => by
    unfold insW
    split
    · exact List.Perm.refl _
    · exact ((insW_perm q r).cons x).trans (List.Perm.swap q x r)
theorem sortW_perm : ∀ l, (sortW l).Perm l
  | [] => List.Perm.refl _
  | x :: r => (insW_perm x (sortW r)).trans ((sortW_perm r).cons x)
theorem insW_sorted (q : Nat × Nat) : ∀ l, l.Pairwise (fun a b => b.1 ≤ a.1) → (insW q l).Pairwise (fun a b => b.1 ≤ a.1)
  | [], _ => by unfold insW; exact .cons (fun _ h => nomatch h) .nil
  | x :: r, h => by
    unfold insW
    have h' := List.pairwise_cons.mp h
    split
    · rename_i c
      refine .cons (fun b hb => ?_) h
      rcases List.mem_cons.mp hb with rfl | hb
      · omega
      · have := h'.1 b hb; omega
    · rename_i c
      refine .cons (fun b hb => ?_) (insW_sorted q r h'.2)
      rcases List.mem_cons.mp ((insW_perm q r).mem_iff.mp hb) with rfl | hb
      · omega
      · exact h'.1 b hb
theorem sortW_sorted : ∀ l, (sortW l).Pairwise (fun a b => b.1 ≤ a.1)
  | [] => .nil
  | x :: r => insW_sorted x _ (sortW_sorted r)
theorem sorted_uniq : ∀ {a b : List (Nat × Nat)}, a.Perm b → (a.map (·.1)).Nodup → a.Pairwise (fun x y => y.1 ≤ x.1) → b.Pairwise (fun x y => y.1 ≤ x.1) → a = b
  | [], b, p, _, _, _ => by rw [List.Perm.nil_eq p]
  | x :: a, b, p, nd, ha, hb => by
    cases b with
    | nil => exact absurd p.length_eq (by simp)
    | cons y b =>
      have ha' := List.pairwise_cons.mp ha
      have hb' := List.pairwise_cons.mp hb
      have nd' := List.nodup_cons.mp nd
      have e : x = y := by
        have hy : y ∈ x :: a := p.mem_iff.mpr (.head _)
        rcases List.mem_cons.mp hy with e | hy
        · exact e.symm
        · have hx : x ∈ y :: b := p.mem_iff.mp (.head _)
          rcases List.mem_cons.mp hx with e | hx
          · exact e
          · have h1 := ha'.1 y hy
            have h2 := hb'.1 x hx
            exact absurd (List.mem_map.mpr ⟨y, hy, by show y.1 = x.1; omega⟩) nd'.1
      subst e
      rw [sorted_uniq (List.Perm.cons_inv p) nd'.2 ha'.2 hb'.2]
theorem struck_nodup (n i : Nat) : ((rndI n i).struck.map (·.1)).Nodup := by
  have h1 : ((rndI n i).line ++ (rndI n i).struck.map (·.1)).Nodup := (rnd_perm n i).nodup_iff.mpr (List.nodup_range.map _ (fun a b hab h => hab (by omega)))
  exact (List.nodup_append.mp h1).2.1
theorem turns_eq {n : Nat} {qs : List (Nat × Nat)} (hp : qs.Perm (rndI n n).struck) (hs : qs.Pairwise (fun a b => b.1 ≤ a.1)) : qs.map (·.2) = turnsL n := by
  have nd : (qs.map (·.1)).Nodup := (hp.map _).nodup_iff.mpr (struck_nodup n n)
  rw [sorted_uniq (hp.trans (sortW_perm _).symm) nd hs (sortW_sorted _)]
  rfl
/-! finite checks -/
def zpad (n len : Nat) : List Nat := roomsL n ++ List.replicate (len - (roomsL n).length) 0
def chk0 (n : Nat) : Bool := (rndI n n).rooms == (roomsL n).map (fun x : Nat => (x : Int)) && decide ((roomsL n).length ≤ 30) && decide ((roomsL n).sum ≤ 50) && (roomsL n == [] || decide (0 < (roomsL n).getD ((roomsL n).length - 1) 0)) && (sownOf (roomsL n) == (List.replicate (roomsL n).length 1, turnsL n))
def chk1 (n len : Nat) : Bool := (match predO len n with | some rs => rs.map (· - 1) == zpad n len && decide ((roomsL n).length ≤ len) | none => true) && (!decide ((roomsL n).length ≤ len) || ((sownOf (zpad n len)).1 == List.replicate len 1))
theorem chk0_all : (List.range 28).all chk0 = true := by decide +kernel
theorem chk1_all : (List.range 28).all (fun n => chk1 n 4 && chk1 n 5 && chk1 n 6) = true := by decide +kernel
/- Pm02 -/
set_option autoImplicit false
theorem chk0_get {n : Nat} (hn : n ≤ 27) : (rndI n n).rooms = rI (roomsL n) ∧ (roomsL n).length ≤ 30 ∧ (roomsL n).sum ≤ 50 ∧ (roomsL n = [] ∨ 0 < (roomsL n).getD ((roomsL n).length - 1) 0) ∧ sownOf (roomsL n) = (List.replicate (roomsL n).length 1, turnsL n) := by
  have h := List.all_eq_true.mp chk0_all n (List.mem_range.mpr (by omega))
  unfold chk0 at h
  simp only [Bool.and_eq_true, Bool.or_eq_true, decide_eq_true_eq, beq_iff_eq] at h
  obtain ⟨⟨⟨⟨a, b⟩, c⟩, d⟩, e⟩ := h
  exact ⟨a, b, c, d, e⟩
theorem chk1_get {n len : Nat} (hn : n ≤ 27) (hl : len = 4 ∨ len = 5 ∨ len = 6) : (∀ rs, predO len n = some rs → rs.map (· - 1) = zpad n len ∧ (roomsL n).length ≤ len) ∧ ((roomsL n).length ≤ len → (sownOf (zpad n len)).1 = List.replicate len 1) := by
  have h := List.all_eq_true.mp chk1_all n (List.mem_range.mpr (by omega))
  have h' : chk1 n len = true := by
    simp only [Bool.and_eq_true] at h
    rcases hl with rfl | rfl | rfl
    · exact h.1.1
    · exact h.1.2
    · exact h.2
  unfold chk1 at h'
  obtain ⟨a, b⟩ := Bool.and_eq_true_iff.mp h'
  refine ⟨fun rs hr => ?_, fun hle => ?_⟩
  · rw [hr] at a
    simpa using a
  · simpa [hle] using b
theorem board_law {sd : List Nat} {M : Nat} (hl : sd.length = 4 ∨ sd.length = 5 ∨ sd.length = 6) (hs : sd.sum ≤ 27)
    (hM : M = 0 ∨ ∃ k, k < sd.length ∧ 0 < sd.getD k 0 ∧ M = k + 1) (hU : ∀ k, k < sd.length → 0 < sd.getD k 0 → k + 1 ≤ M) :
    ((sownOf sd).1 = List.replicate sd.length 1) ↔ sd.take M = roomsL sd.sum := by
  have c1 := chk1_get hs hl
  have c0 := chk0_get hs
  constructor
  · intro hw
    have hp := win_pred sd.length sd.sum (sd.map (· + 1)) [] (by simp) (by
      clear hl hs hM hU c1 c0 hw
      induction sd with
      | nil => rfl
      | cons a l ih => rw [List.map_cons, List.sum_cons, List.sum_cons, List.length_cons, ih]; omega) (fun r hr => by
        obtain ⟨y, _, rfl⟩ := List.mem_map.mp hr
        omega) hw
    have e := c1.1 _ hp
    have e1 : sd = zpad sd.sum sd.length := by
      rw [← e.1, List.map_map]
      have : ((fun x : Nat => x - 1) ∘ fun x => x + 1) = id := by funext x; simp
      rw [this, List.map_id]
    have hMl : M = (roomsL sd.sum).length := by
      have get : ∀ k, sd.getD k 0 = (roomsL sd.sum).getD k 0 := by
        intro k
        rw [e1]
        conv => lhs; unfold zpad
        rw [← e1]
        by_cases hk : k < (roomsL sd.sum).length
        · simp [List.getD, List.getElem?_append_left hk]
        · simp only [List.getD]
          rw [List.getElem?_append_right (by omega), List.getElem?_eq_none (l := roomsL sd.sum) (by omega)]
          by_cases hk2 : k - (roomsL sd.sum).length < sd.length - (roomsL sd.sum).length
          · rw [List.getElem?_replicate, if_pos hk2]; rfl
          · rw [List.getElem?_replicate, if_neg hk2]
      rcases c0.2.2.2.1 with h0 | h0
      · rw [h0]
        rcases hM with hM | ⟨k, _, hk, _⟩
        · exact hM
        · rw [get k, h0] at hk
          simp at hk
      · have hpos : 0 < (roomsL sd.sum).length := by
          cases hq : roomsL sd.sum with
          | nil => rw [hq] at h0; simp at h0
          | cons => simp
        have h1 := hU ((roomsL sd.sum).length - 1) (by have := e.2; omega) (by rw [get]; exact h0)
        rcases hM with hM | ⟨k, _, hk, hM⟩
        · omega
        · rw [get k] at hk
          by_cases hk' : k < (roomsL sd.sum).length
          · omega
          · simp only [List.getD] at hk
            rw [List.getElem?_eq_none (by omega)] at hk
            simp at hk
    rw [hMl]
    have e2 : ∀ n, sd = zpad n sd.length → sd.take (roomsL n).length = roomsL n := by
      intro n he
      rw [he]
      conv => lhs; unfold zpad
      rw [List.take_left' rfl]
    exact e2 _ e1
  · intro ht
    have hle : (roomsL sd.sum).length ≤ sd.length := by rw [← ht, List.length_take]; omega
    have hz : sd = zpad sd.sum sd.length := by
      have hMl : (roomsL sd.sum).length = min M sd.length := by rw [← ht, List.length_take]
      unfold zpad
      conv => lhs; rw [← List.take_append_drop M sd, ht]
      congr 1
      refine List.ext_getElem? fun k => ?_
      rw [List.getElem?_drop, List.getElem?_replicate]
      split
      · rename_i hk
        have hlt : M + k < sd.length := by omega
        rw [List.getElem?_eq_getElem hlt]
        congr 1
        have := hU (M + k) hlt
        rw [List.getD_eq_getElem?_getD, List.getElem?_eq_getElem hlt, Option.getD_some] at this
        omega
      · rename_i hk
        exact List.getElem?_eq_none (by omega)
    have := c1.2 hle
    rw [← hz] at this
    exact this
/-! the board of a script -/
def seedsOf (ns : List Int) : List Nat := (boardOf ns).map Int.toNat
theorem boardAt_ge (g : List Int) (k : Nat) : 0 ≤ boardAt g k ∧ boardAt g k ≤ k + 2 := by
  unfold boardAt
  have h1 := Int.fmod_nonneg_of_pos (firstSeeds.getD k 0 + g.getD k 0) (b := (k : Int) + 3) (by omega)
  have h2 := Int.fmod_lt_of_pos (firstSeeds.getD k 0 + g.getD k 0) (b := (k : Int) + 3) (by omega)
  omega
theorem seeds_int (ns : List Int) : boardOf ns = rI (seedsOf ns) := by
  unfold seedsOf boardOf rI
  rw [List.map_map, List.map_map]
  refine List.map_congr_left fun k _ => ?_
  have := boardAt_ge (givenOf ns) k
  show boardAt (givenOf ns) k = ((boardAt (givenOf ns) k).toNat : Int)
  omega
theorem seeds_len (ns : List Int) : (seedsOf ns).length = max 4 (min 6 ns.length) := by
  unfold seedsOf boardOf
  rw [List.length_map, List.length_map, List.length_range, given_len]
theorem seeds_len3 (ns : List Int) : (seedsOf ns).length = 4 ∨ (seedsOf ns).length = 5 ∨ (seedsOf ns).length = 6 := by rw [seeds_len]; omega
theorem sum_bound (f : Nat → Nat) (hf : ∀ k, f k ≤ k + 2) : ∀ n, ((List.range n).map f).sum ≤ n * (n + 3) / 2
  | 0 => Nat.zero_le _
  | n + 1 => by
    rw [List.range_succ, List.map_append, List.sum_append]
    have ih := sum_bound f hf n
    have h2 := hf n
    have e : (n + 1) * (n + 1 + 3) / 2 = n * (n + 3) / 2 + (n + 2) := by
      have : (n + 1) * (n + 1 + 3) = n * (n + 3) + 2 * (n + 2) := by
        rw [Nat.mul_add, Nat.mul_add, Nat.add_mul, Nat.add_mul, Nat.mul_add]; omega
      rw [this, Nat.add_mul_div_left _ _ (by omega)]
    rw [e]
    simp only [List.map_cons, List.map_nil, List.sum_cons, List.sum_nil]
    omega
theorem seeds_sum (ns : List Int) : (seedsOf ns).sum ≤ 27 := by
  have e : seedsOf ns = (List.range (givenOf ns).length).map fun k => (boardAt (givenOf ns) k).toNat := by unfold seedsOf boardOf; rw [List.map_map]; rfl
  rw [e]
  have h := sum_bound (fun k => (boardAt (givenOf ns) k).toNat) (fun k => by have := boardAt_ge (givenOf ns) k; omega) (givenOf ns).length
  have hl := given_len ns
  have hl' : (givenOf ns).length = 4 ∨ (givenOf ns).length = 5 ∨ (givenOf ns).length = 6 := by omega
  rcases hl' with q | q | q <;> rw [q] at h ⊢ <;> omega
/-- the last pit that has seeds, as the law's list tells it -/
def lastsOf (sd : List Nat) : List Int := (List.range sd.length).filterMap fun k => if 0 < sd.getD k 0 then some ((k : Int) + 1) else none
/- LbD02 -/
set_option autoImplicit false
section
variable {w : World} {base : Heap} {os : OsState} {mb : Str → Option Value} {L : Addr} {m : Loc} {mu led : List (Addr × Obj)} {s : Shared} {A : Around} {E : Value → Shared → Prop} {Q : Value → Shared → Prop} {d : Nat}
set_option maxHeartbeats 2000000
theorem kp_board : keepIn (KF w) (.ref 221) = true := by kernel_rfl
theorem kp_sown : keepIn (KF w) (.ref 226) = true := by kernel_rfl
theorem kp_struck : keepIn (KF w) (.ref 231) = true := by kernel_rfl
theorem ints_ri {vs : List Value} {ns : List Int} (h : IntsAre vs ns) : RI vs ns := by
  induction h with
  | nil => exact .nil
  | cons n t _ ih => exact .cons ⟨t, rfl⟩ ih
abbrev locW (a : Addr) (rooms turns last rows pits : Option Value) : Loc := [("script", some (.ref a)), ("rooms", rooms), ("turns", turns), ("last", last), ("rows", rows), ("pits", pits)]
/-- the list that max is asked of -/
theorem lasts_spec {sd : List Nat} {M : Int} (hm : M ∈ [0] ++ lastsOf sd) (hu : ∀ a, a ∈ [0] ++ lastsOf sd → a ≤ M) :
    ∃ N : Nat, M = (N : Int) ∧ (N = 0 ∨ ∃ k, k < sd.length ∧ 0 < sd.getD k 0 ∧ N = k + 1) ∧ (∀ k, k < sd.length → 0 < sd.getD k 0 → k + 1 ≤ N) := by
  have up : ∀ N : Nat, M = (N : Int) → ∀ k, k < sd.length → 0 < sd.getD k 0 → k + 1 ≤ N := by
    intro N e k hk h0
    have := hu ((k : Int) + 1) (List.mem_append.mpr (.inr (List.mem_filterMap.mpr ⟨k, List.mem_range.mpr hk, if_pos h0⟩)))
    omega
  rcases List.mem_append.mp hm with hm | hm
  · have e : M = ((0 : Nat) : Int) := by simpa using hm
    exact ⟨0, e, .inl rfl, up 0 e⟩
  · obtain ⟨k, hk, e⟩ := List.mem_filterMap.mp hm
    by_cases h0 : 0 < sd.getD k 0
    · rw [if_pos h0] at e
      have e' : M = ((k + 1 : Nat) : Int) := by injection e with e; omega
      exact ⟨k + 1, e', .inr ⟨k, List.mem_range.mp hk, h0, rfl⟩, up _ e'⟩
    · rw [if_neg h0] at e; cases e
theorem law_spec {a : Addr} {vs : List Value} {ns : List Int} (O : (cx w base os mb).Ok) (hbase : s.heap = base) (hg : AllBare s.gens) (hos : s.os = os) (ha : base.IsList a vs.toArray) (hn : a ∉ (cx w base os mb).tabs.map (·.2.1)) (hi : RI vs ns) (hz : ns.length ≤ 1000) (hA : AOk A d) (hd : d ≤ 390)
    (h : ∀ L' m' mu' led' s', At (cx w base os mb) L' m' mu' led' s' → Q (.bool true) s') : wpAny (cx w base os mb).M A (call (.ref 236) [.ref a]) Q E s := by
  have hlen := hi.length
  refine first_call O hbase hg hos hA ?a1 (f := 236) (fd := fdA w 236) ?a2 ?a3 (by rfl) (binds := [("script", .ref a)]) ?a4 ?a5 (fun n => [("seeds", n)]) (fun n => [(n, cellO none)]) ?a6 ?a7 ?a8 ?a9 (locW a none none none none none) ?a10 ?a11 ?a12 ?a13 ?a14 ?_
  case a8 =>
    intro n x hx
    cases List.mem_singleton.mp hx
    exact .inl (by kernel_rfl)
  walk_at "defk"
  intro L' s1 S1 hA1
  have hh := hA1.handled
  have hsum := seeds_sum ns
  have hl3 := seeds_len3 ns
  have hbd := seeds_int ns
  refine wpAny_execs_cons ?_
  refine wpAny_Assign_Name ?_
  refine Call_ ?_
  refine n_g (.ref 221) S1 ?_
  refine callWith_K S1.inK kp_board ?_
  refine args_cons (n_l S1 ?_)
  refine args_nil ?_
  refine ⟨S1.inK, ?_⟩
  refine board_spec S1 ha hn hi hz hA1 (by omega) ?_
  intro D n ws s2 hR S2
  rw [hbd] at hR
  generalize hsd : seedsOf ns = sd at *
  have hwl : ws.length = sd.length := by rw [hR.length]; simp
  have hsl : sd.length ≤ 6 := by omega
  refine st_c (L' + 1) none S2 ?_ (mu' := [(D, W.listOf ws.toArray n), (L' + 1, cellO (some (.ref D)))])
  intro s3 S3
  refine wpAny_execs_cons ?_
  refine Assign_Tuple ?_ (by kernel_rfl) (by kernel_rfl)
  refine Call_ ?_
  refine n_g (.ref 231) S3 ?_
  refine callWith_K S3.inK kp_struck ?_
  refine args_cons ?_
  refine Call_ ?_
  refine n_b (.builtin "sum") S3 ?_
  refine callWith_method1 ?_
  refine args_cons (n_c (L' + 1) S3 ?_)
  refine args_nil ?_
  refine r_sumL S3 hh (S3.knIsList (n := n) (kn_mu (.head _))) hR.ints ?_
  intro t4 s4 S4
  rw [sum_cast]
  refine args_cons ?_
  refine wpAny_BinOp ?_
  refine Call_ ?_
  refine n_b (.builtin "sum") S4 ?_
  refine callWith_method1 ?_
  refine args_cons ?_
  refine Subscript_ ?_
  refine n_l S4 ?_
  refine r_Slice ?_
  refine wpAny_pure ?_
  show wpAny _ _ (eval _ _) _ _ _
  refine r_int S4 fun t5 s5 S5 => ?_
  refine ⟨_, _, _, _, S5, fun q s6 S6 => ?_⟩
  refine r_sliceLL (vs := vs) (vs.take 6) S6 (S6.baseList ha hn) (.head _) .none (.int _ _) (by omega) (slicePick_to' vs 6) (by with_unfolding_all rfl) ?_
  intro b s7 S7
  refine args_nil ?_
  refine r_sumL S7 hh (S7.knIsList (n := 0) (kn_mu (.head _))) (RI.ints (hi.take 6)) ?_
  intro t8 s8 S8
  refine r_int S8 fun t9 s9 S9 => ?_
  refine r_mod S9 (by decide) ?_
  intro t10 s10 S10
  obtain ⟨more, hmore, hm2⟩ : ∃ more : Nat, Int.fmod (ns.take 6).sum 3 = (more : Int) ∧ more ≤ 2 := by
    have h1 := Int.fmod_nonneg_of_pos (ns.take 6).sum (b := 3) (by omega)
    have h2 := Int.fmod_lt_of_pos (ns.take 6).sum (b := 3) (by omega)
    exact ⟨(Int.fmod (ns.take 6).sum 3).toNat, by omega, by omega⟩
  rw [hmore]
  refine args_nil ?_
  refine ⟨S10.inK, ?_⟩
  refine struck_spec S10 (by omega) hm2 hA1 (by omega) ?_
  intro qs t R P rv pv nr np s11 hperm hpw hRv hPv S11
  have c0 := chk0_get (n := sd.sum) hsum
  have hturn := turns_eq hperm hpw
  rw [hturn] at hPv
  rw [c0.1] at hRv
  clear hperm hpw hturn
  refine r_unpack S11 hh (.head _) ?_
  intro s12 S12
  refine assignInOrder_cons (assign_Name (st_l S12 ?_ (m' := locW a (some (.ref R)) none none none none)))
  intro s13 S13
  refine assignInOrder_cons (assign_Name (st_l S13 ?_ (m' := locW a (some (.ref R)) (some (.ref P)) none none none)))
  intro s14 S14
  refine assignInOrder_nil ?_
  replace S14 : At (cx w base os mb) L' (locW a (some (.ref R)) (some (.ref P)) none none none) [(R, W.listOf rv.toArray nr), (P, W.listOf pv.toArray np), (D, W.listOf ws.toArray n), (L' + 1, cellO (some (.ref D)))] [] s14 := S14.pick
  clear S1 S2 S3 S4 S5 S6 S7 S8 S9 S10 S11 S12 S13
  refine wpAny_execs_cons ?_
  refine wpAny_Assign_Name ?_
  refine Call_ ?_
  refine n_b (.builtin "max") S14 ?_
  refine callWith_method1 ?_
  refine args_cons ?_
  refine wpAny_BinOp ?_
  refine List_ ?_
  refine args_cons (r_int S14 fun t15 s15 S15 => ?_)
  refine args_nil ?_
  refine r_newList S15 ?_ (by kernel_rfl)
  intro z s16 S16
  refine comp_eval (c_R S16 [("seeds", L' + 1)] (fun _ => isI) (fun k => if 0 < sd.getD k 0 then some ((k : Int) + 1) else none) sd.length (by omega) hh ?it ?step (fun _ _ _ _ _ z => z)) ?fin
  case it =>
    intro Q' k
    refine Call_ ?_
    refine n_b (.type "range") S16 ?_
    refine PyProof.Rows.callWith_type1 ?_
    refine args_cons ?_
    refine Call_ ?_
    refine n_b (.builtin "len") S16 ?_
    refine callWith_method1 ?_
    refine args_cons (n_c (L' + 1) S16 ?_)
    refine args_nil ?_
    refine r_lenL (n := n) S16 (kn_mu (by walk_at "mem")) (by omega) ?_
    intro t17 s17 S17
    refine args_nil ?_
    refine r_range1 S17 ?_
    rw [hwl]
    intro r t1 t2 s' S'
    exact k r _ _ _ s' S'
  case step =>
    intro Lc D2 us n2 oL2 news it o s17 k t2 hk hnd S17
    obtain ⟨v, hv, t3, rfl⟩ := hR.get (i := k) (y := ((sd.getD k 0 : Nat) : Int)) (by simp [rI, List.getD, List.getElem?_map, List.getElem?_eq_getElem hk])
    refine t_one ?_
    refine wpAny_isTrue_Compare1 ?_
    refine Subscript_ ?_
    refine n_c (L' + 1) S17 ?_
    refine n_l S17 ?_
    refine r_itemL k (n := n) S17 (kn_mu (by walk_at "mem")) rfl (by omega) hv (by with_unfolding_all rfl) ?_
    refine r_int S17 fun t18 s18 S18 => ?_
    refine PyProof.Rows.gt_int ?_
    refine wpAny_truthy_bool ?_
    by_cases hc : 0 < sd.getD k 0
    · have : (decide ((0 : Int) < ((sd.getD k 0 : Nat) : Int))) = true := by rw [decide_eq_true_eq]; omega
      rw [this, if_pos rfl]
      refine wpAny_BinOp ?_
      refine n_l S18 ?_
      refine r_int S18 fun t19 s19 S19 => ?_
      refine r_add S19 ?_
      intro t20 s20 S20
      exact ⟨(k : Int) + 1, [], by rw [if_pos hc], by simp, ⟨t20, rfl⟩, S20⟩
    · have : (decide ((0 : Int) < ((sd.getD k 0 : Nat) : Int))) = false := by rw [decide_eq_false_iff_not]; omega
      rw [this, if_neg (by decide)]
      exact ⟨by rw [if_neg hc], S18⟩
  case fin =>
  intro C cv nc news s17 hnd hRc S17
  replace hRc : RI cv (lastsOf sd) := hRc
  have hcl : cv.length ≤ 6 := by
    rw [hRc.length]
    refine Nat.le_trans (List.length_filterMap_le _ _) ?_
    rw [List.length_range]; omega
  replace S17 := S17.ledSub (led' := []) fun p hp => nomatch hp
  refine r_addL (vs := [Value.int 0 t15]) (ws := cv) (n := 0) (k := nc) S17 (kn_mu (by walk_at "mem")) (kn_mu (.head _)) (by simp; omega) ?_
  intro B s18 S18
  refine args_nil ?_
  have hRB : RI ([Value.int 0 t15] ++ cv) ([0] ++ lastsOf sd) := Reps.append (.cons ⟨t15, rfl⟩ .nil) hRc
  refine r_maxL S18 hh (S18.knIsList (n := 0) (kn_mu (.head _))) (RI.ints hRB) (by simp) ?_
  intro M t19 s19 hMm hMu S19
  obtain ⟨N, rfl, hN0, hNu⟩ := lasts_spec hMm hMu
  have hN6 : N ≤ 6 := by
    rcases hN0 with q | ⟨k, q, _, q2⟩ <;> omega
  refine st_l S19 ?_ (m' := locW a (some (.ref R)) (some (.ref P)) (some (.int (N : Int) t19)) none none)
  intro s20 S20
  replace S20 : At (cx w base os mb) L' (locW a (some (.ref R)) (some (.ref P)) (some (.int (N : Int) t19)) none none) [(R, W.listOf rv.toArray nr), (P, W.listOf pv.toArray np), (D, W.listOf ws.toArray n), (L' + 1, cellO (some (.ref D)))] [] s20 := S20.pick
  clear S14 S15 S16 S17 S18 S19
  refine wpAny_execs_cons ?_
  refine Assign_Tuple ?_ (by kernel_rfl) (by kernel_rfl)
  refine Call_ ?_
  refine n_g (.ref 226) S20 ?_
  refine callWith_K S20.inK kp_sown ?_
  refine args_cons (n_c (L' + 1) S20 ?_)
  refine args_nil ?_
  refine ⟨S20.inK, ?_⟩
  refine sown_spec (n0 := n) S20 (kn_mu (by walk_at "mem")) hR (by omega) (by omega) hA1 (by omega) ?_
  intro t21 R2 P2 rv2 pv2 nr2 np2 s21 hRv2 hPv2 S21
  refine r_unpack S21 hh (.head _) ?_
  intro s22 S22
  refine assignInOrder_cons (assign_Name (st_l S22 ?_ (m' := locW a (some (.ref R)) (some (.ref P)) (some (.int (N : Int) t19)) (some (.ref R2)) none)))
  intro s23 S23
  refine assignInOrder_cons (assign_Name (st_l S23 ?_ (m' := locW a (some (.ref R)) (some (.ref P)) (some (.int (N : Int) t19)) (some (.ref R2)) (some (.ref P2)))))
  intro s24 S24
  refine assignInOrder_nil ?_
  clear S20 S21 S22 S23
  refine wpAny_execs_cons ?_
  refine wpAny_If ?_
  refine wpAny_isTrue_Compare1 ?_
  refine wpAny_Compare1 ?_
  refine n_l S24 ?_
  refine wpAny_BinOp ?_
  refine List_ ?_
  refine args_cons (r_str S24 fun t25 s25 S25 => ?_)
  refine args_nil ?_
  refine r_newList S25 ?_ (by kernel_rfl)
  intro z2 s26 S26
  refine Call_ ?_
  refine n_b (.builtin "len") S26 ?_
  refine callWith_method1 ?_
  refine args_cons (n_c (L' + 1) S26 ?_)
  refine args_nil ?_
  refine r_lenL (n := n) S26 (kn_mu (by walk_at "mem")) (by omega) ?_
  intro t27 s27 S27
  rw [hwl]
  refine r_mulL (vs := [Value.str "." t25]) (k := 0) S27 (kn_mu (.head _)) (by simp; omega) (by omega) ?_
  intro m1 s28 S28
  rw [rep_one] at S28
  refine r_eqS (n := nr2) (k := 0) S28 (kn_mu (by walk_at "mem")) (kn_mu (.head _)) hRv2 (rs_rep sd.length) (fun x hx => by
    obtain ⟨c, hc, rfl⟩ := List.mem_map.mp hx
    exact strOk_dots c) (fun x hx => by rw [List.eq_of_mem_replicate hx]; decide +kernel) hA1 (by omega) ?_
  refine wpAny_Compare1 ?_
  refine Subscript_ ?_
  refine n_c (L' + 1) S28 ?_
  refine r_Slice ?_
  refine wpAny_pure ?_
  show wpAny _ _ (eval _ _) _ _ _
  refine n_l S28 ?_
  refine ⟨_, _, _, _, S28, fun q s29 S29 => ?_⟩
  refine r_sliceL (vs := ws) (n := n) (ws.take N) S29 (kn_mu (by walk_at "mem")) (.head _) .none (.int _ _) (by omega) (slicePick_to' ws N) (by with_unfolding_all rfl) ?_
  intro sl s30 S30
  refine n_l S30 ?_
  refine r_eqI (n := 0) (k := nr) (ys := rI (roomsL sd.sum)) S30 (kn_mu (.head _)) (kn_mu (by walk_at "mem")) (hR.take N) hRv hA1 (by omega) ?_
  refine ne_bool ?_
  refine wpAny_truthy_bool ?_
  have hlaw := board_law (sd := sd) (M := N) hl3 hsum hN0 hNu
  have e1 : ((sownOf sd).1.map dots == List.replicate sd.length (".":Str)) = decide ((sownOf sd).1 = List.replicate sd.length 1) := by
    rw [show List.replicate sd.length ("." : Str) = (List.replicate sd.length 1).map dots from by rw [List.map_replicate, show dots 1 = "." from by decide +kernel]]
    rw [Bool.eq_iff_iff, beq_iff_eq, decide_eq_true_eq]
    refine ⟨fun e => ?_, fun e => by rw [e]⟩
    refine List.map_inj_right (fun x y h => ?_) |>.mp e
    have := congrArg Str.length h
    rwa [dots_length, dots_length] at this
  have e2 : ((rI sd).take N == rI (roomsL sd.sum)) = decide (sd.take N = roomsL sd.sum) := by
    rw [show (rI sd).take N = rI (sd.take N) from by simp [rI, List.map_take]]
    rw [Bool.eq_iff_iff, beq_iff_eq, decide_eq_true_eq]
    refine ⟨fun e => ?_, fun e => by rw [e]⟩
    refine List.map_inj_right (fun x y h => ?_) |>.mp e
    omega
  rw [e1, e2, decide_eq_decide.mpr hlaw, bne_self_eq_false, if_neg (by decide)]
  refine wpAny_execs_nil ?_
  refine wpAny_execs_cons ?_
  refine wpAny_Return_some ?_
  refine wpAny_Compare1 ?_
  refine Call_ ?_
  refine n_g (.ref 226) S30 ?_
  refine callWith_K S30.inK kp_sown ?_
  refine args_cons (n_l S30 ?_)
  refine args_nil ?_
  refine ⟨S30.inK, ?_⟩
  refine sown_spec (n0 := nr) S30 (kn_mu (by walk_at "mem")) hRv c0.2.1 c0.2.2.1 hA1 (by omega) ?_
  intro t31 R3 P3 rv3 pv3 nr3 np3 s31 hRv3 hPv3 S31
  rw [c0.2.2.2.2] at hRv3 hPv3
  refine Tuple_ ?_
  refine args_cons ?_
  refine wpAny_BinOp ?_
  refine List_ ?_
  refine args_cons (r_str S31 fun t32 s32 S32 => ?_)
  refine args_nil ?_
  refine r_newList S32 ?_ (by kernel_rfl)
  intro z3 s33 S33
  refine Call_ ?_
  refine n_b (.builtin "len") S33 ?_
  refine callWith_method1 ?_
  refine args_cons (n_l S33 ?_)
  refine args_nil ?_
  have hrl : rv.length = (roomsL sd.sum).length := by rw [hRv.length]; simp
  have hrl30 := c0.2.1
  refine r_lenL (n := nr) S33 (kn_mu (by walk_at "mem")) (by omega) ?_
  intro t34 s34 S34
  rw [hrl]
  refine r_mulL (vs := [Value.str "." t32]) (k := 0) S34 (kn_mu (.head _)) (by simp; omega) (by omega) ?_
  intro m2 s35 S35
  rw [rep_one] at S35
  refine args_cons (n_l S35 ?_)
  refine args_nil ?_
  refine r_newTuple S35 ?_ (by kernel_rfl)
  intro tp s36 S36
  refine r_eqT (n := nr3) (k := np3) (n' := 0) (k' := np) S36 (by walk_at "mem") (.head _) (kn_mu (by walk_at "mem")) (kn_mu (by walk_at "mem")) (kn_mu (by walk_at "mem")) (kn_mu (by walk_at "mem")) hRv3 hPv3 (rs_rep _) hPv (fun x hx => by
    obtain ⟨c, hc, rfl⟩ := List.mem_map.mp hx
    exact strOk_dots c) (fun x hx => by rw [List.eq_of_mem_replicate hx]; decide +kernel) hA1 (by omega) ?_
  have e3 : (((List.replicate (roomsL sd.sum).length 1).map dots == List.replicate (roomsL sd.sum).length (".":Str)) && (rI (turnsL sd.sum) == rI (turnsL sd.sum))) = true := by
    rw [List.map_replicate, show dots 1 = "." from by decide +kernel]
    simp
  rw [e3]
  exact h _ _ _ _ _ S36
end
/- Hd04 -/
set_option maxHeartbeats 8000000
def tabO : Obj := { cls := .none, data := .fields #[] }
noncomputable def myK (P : Params) : Frag := hd.heap_1 P ++ [(174, tabO), (181, tabO)]
def myAs : List Addr := [2, 3, 32, 34, 35, 37, 38, 42, 43, 47, 48, 49, 51, 52, 54, 55, 63, 65, 66, 68, 69, 70, 72, 73, 75, 76, 77, 79, 80, 82, 83, 84, 86, 87, 89, 90, 91, 93, 94, 96, 97, 98, 100, 101, 103, 104, 105, 107, 108, 110, 111, 112, 114, 115, 117, 118, 119, 121, 122, 124, 125, 126, 127, 128, 129, 130, 133, 136, 141, 142, 143, 145, 146, 148, 149, 150, 152, 153, 155, 156, 157, 158, 160, 161, 163, 164, 165, 166, 168, 169, 171, 172, 173, 175, 176, 178, 179, 180, 182, 183, 185, 186, 187, 188, 190, 191, 193, 194, 195, 197, 198, 200, 201, 202, 203, 205, 206, 208, 209, 210, 211, 212, 213, 214, 217, 220, 221, 222, 225, 226, 227, 230, 231, 232, 235, 236, 174, 181]
theorem myE (P : Params) : myAs = (myK P).map (·.1) := by kernel_rfl
theorem lookup_app {K : Frag} {a : Addr} {o : Obj} (h : K.lookup a = some o) (K' : Frag) : (K ++ K').lookup a = some o := by
  induction K with
  | nil => cases h
  | cons p K ih =>
    obtain ⟨b, x⟩ := p
    simp only [List.cons_append, List.lookup_cons] at h ⊢
    split
    · rename_i q; rw [q] at h; exact h
    · rename_i q; rw [q] at h; exact ih h
theorem ns_some_of {K : Frag} {h : Heap} {N : Addr} {mg : Str → Option Value} {n : Str} {v : Value} (X : K.In h) (G : h.Ns N mg) (e : nsIn K N n = some (some v)) : mg n = some v := by
  obtain ⟨o, es, ep, ho, hd, _, hf⟩ := G
  unfold nsIn at e
  split at e
  · rename_i c d es' n' sl q
    have := X _ _ q
    rw [ho] at this
    cases this
    cases hd
    split at e
    · rename_i x he
      cases e
      rw [← hf]
      unfold nsFind findBy
      rw [← Array.find?_toList, he]
      rfl
    · split at e <;> cases e
  · cases e
/-- a code object's table, read from the fragment -/
def codeOk (K : Frag) (c P : Addr) : Bool := match K.lookup c with
  | some ⟨cl, _, .fields vs, _⟩ => (match cl with | .type n => n == "code" | _ => false) && (match vs.getD 18 .none with | .str _ _ => true | _ => false) && (match vs.getD 7 .none with | .int _ _ => true | _ => false) && (match vs.getD 9 .none with | .bool _ => true | _ => false) && (match vs.getD 10 .none with | .int _ _ => true | _ => false) && (match vs[11]? with | some (Value.ref a) => a == P | _ => false)
  | _ => false
theorem tab_of {K : Frag} {h : Heap} {c P : Addr} (X : K.In h) (e : codeOk K c P = true) (hP : h.get? P = some tabO) (hne : c ≠ P) : h.TableAt c P #[] ∧ h.IsCode c P #[] := by
  unfold codeOk at e
  split at e
  · rename_i cl d vs sl q
    have ho := X _ _ q
    simp only [Bool.and_eq_true] at e
    obtain ⟨⟨⟨⟨⟨e1, e2⟩, e3⟩, e4⟩, e5⟩, e6⟩ := e
    have h1 : cl = .type "code" := by
      split at e1
      · rw [beq_iff_eq] at e1; rw [e1]
      · cases e1
    subst h1
    have h6 : vs[11]? = some (.ref P) := by
      split at e6
      · rename_i a hq; rw [beq_iff_eq] at e6; rw [hq, e6]
      · cases e6
    have h6' : vs.getD 11 .none = .ref P := by rw [Array.getD_eq_getD_getElem?, h6]; rfl
    obtain ⟨f, tf, h2⟩ : ∃ f tf, vs.getD 18 .none = .str f tf := by
      split at e2
      · rename_i f tf hq; exact ⟨f, tf, hq⟩
      · cases e2
    obtain ⟨g, tg, h3⟩ : ∃ f tf, vs.getD 7 .none = .int f tf := by
      split at e3
      · rename_i f tf hq; exact ⟨f, tf, hq⟩
      · cases e3
    obtain ⟨b, h4⟩ : ∃ b, vs.getD 9 .none = .bool b := by
      split at e4
      · rename_i b hq; exact ⟨b, hq⟩
      · cases e4
    obtain ⟨t, tt, h5⟩ : ∃ f tf, vs.getD 10 .none = .int f tf := by
      split at e5
      · rename_i f tf hq; exact ⟨f, tf, hq⟩
      · cases e5
    exact ⟨⟨⟨_, vs, ho, rfl, rfl, h6⟩, hP⟩, ⟨_, vs, f, tf, g, tg, b, t, tt, tabO, ho, rfl, h6', h2, h3, h4, h5, hP, rfl, by trivial, hne⟩⟩
  · cases e
theorem mem_of_lk {K : Frag} {a : Addr} {o : Obj} (h : K.lookup a = some o) : (a, o) ∈ K := by
  induction K with
  | nil => cases h
  | cons p K ih =>
    obtain ⟨b, x⟩ := p
    simp only [List.lookup_cons] at h
    split at h
    · rename_i q
      cases h
      rw [beq_iff_eq] at q
      rw [q]; exact .head _
    · exact .tail _ (ih h)
theorem myK_in {P : Params} {h : Heap} (X : (myK P).In h) : (hd.heap_1 P).In h := fun a o e => X a o (lookup_app e _)
theorem cxOk {w : World} {os : OsState} {mg mb : Str → Option Value} {h : Heap} (X : (myK w.params).In h) (hg : h.Ns mainGlobals mg) (hb : h.Ns builtinsNs mb) (hl : h.NoLimit) (hbb : ∀ x : Str, x ≠ "__name__" → mb x = bootBuiltins x)
    (hm : ∃ bm ob, mg "__builtins__" = some (.ref bm) ∧ bm ≠ builtinsNs ∧ h.get? bm = some ob ∧ ob.cls = .type "module" ∧ ob.dict = some builtinsNs ∧ ob.data = .plain) : (cx w h os mb).Ok where
  top := myK_in X
  bns := hb
  bb := hbb
  lim := hl
  tab := fun t ht => by
    rcases List.mem_cons.mp ht with rfl | ht
    · exact tab_of (myK_in X) (by kernel_rfl) (X 174 _ (by kernel_rfl)) (by decide)
    · cases List.mem_singleton.mp ht
      exact tab_of (myK_in X) (by kernel_rfl) (X 181 _ (by kernel_rfl)) (by decide)
  nogl := by show builtinsNs ∉ [174, 181]; decide
  nost := by show cStatics ∉ [174, 181]; decide
  noK := fun a o e hm => by
    have hk : (hd.heap_1 w.params).all (fun p => !(p.1 == 174) && !(p.1 == 181)) = true := by kernel_rfl
    have ha : ∃ x, (a, x) ∈ hd.heap_1 w.params := ⟨o, mem_of_lk e⟩
    obtain ⟨x, hx⟩ := ha
    have := List.all_eq_true.mp hk _ hx
    rcases List.mem_cons.mp hm with rfl | hm
    · simp at this
    · cases List.mem_singleton.mp hm
      simp at this
  cod := fun t ht => by
    rcases List.mem_cons.mp ht with rfl | ht
    · show (178 : Nat) ∉ [174, 181]; decide
    · cases List.mem_singleton.mp ht
      show (185 : Nat) ∉ [174, 181]; decide
  two := by show ([174, 181] : List Nat).Nodup; decide
  bm := by
    obtain ⟨bm, ob, e1, e2, e3⟩ := hm
    have e0 : mg "__builtins__" = some (.ref 4) := ns_some_of (myK_in X) hg (by kernel_rfl)
    rw [e0] at e1
    cases e1
    exact ⟨4, ob, by kernel_rfl, e2, by show (4 : Nat) ∉ [174, 181]; decide, e3⟩
theorem callerA_ok : AOk callerA 301 where
  handled := rfl
  depth := by decide
  units := by decide
  frames := ⟨[], rfl⟩
/- Hd05 -/
end Mine
set_option maxHeartbeats 8000000
namespace Mine
theorem post_true (x : WData) : Challenge.rw_ph0135_02.row.claim.post [x] (.bool true) [x] = true := by wrow_post
theorem goal02 : PySem.Challenge.rw_ph0135_02.Holds := by
  w_on; refine holds_law (by kernel_rfl) fun said => ?_; o_head (kHook myK myAs myE)
  (case hw => w_witness2)
  intro w s₀ s₁ mg mb G Y fa o pm cd doc dV kV ho hd hcd hD hmg hg args vals as hpre hlay hrd hwl hlo
  have KX := kIn_of Y
  refine Ground.open G ?_
  intro T B D TE TW
  wrow_args hpre hlay hrd hwl hlo
  have hL := ‹s₁.heap.IsList _ _›
  have hI := ‹IntsAre _ _›
  have hfa := hmg
  rw [ns_some_of (v := .ref 236) (myK_in KX) T.g (by kernel_rfl)] at hfa
  cases hfa
  refine law_spec (os := s₁.os) (d := 301) (cxOk KX T.g T.b T.nolimit T.builtins T.bmain) rfl (.of_eq hg) rfl hL ?na (ints_ri hI) (by omega) callerA_ok (by omega) ?fin
  case na =>
    intro hm
    obtain ⟨o', ho', hc', _⟩ := hL
    rcases List.mem_cons.mp hm with rfl | hm
    · rw [KX 174 tabO (by kernel_rfl)] at ho'
      cases ho'; cases hc'
    · cases List.mem_singleton.mp hm
      rw [KX 181 tabO (by kernel_rfl)] at ho'
      cases ho'; cases hc'
  case fin =>
    intro L' m' mu' led' s' S
    exact ⟨.inl ⟨.bool true, .bool true, [], rfl, fun _ => rfl, .bool true, post_true _, fun _ => ⟨.nil, fun _ h => nomatch h⟩⟩, S.oldK rfl, S.os, S.gens⟩
end Mine
set_option maxHeartbeats 8000000 in
theorem PySem.Challenge.cw_ph0135_02_holds : PySem.Challenge.rw_ph0135_02.Holds :=
  Mine.goal02
