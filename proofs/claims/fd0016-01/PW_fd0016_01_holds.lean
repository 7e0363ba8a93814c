import PyProof.Rows.All
import Wide.All
import OpenK.AllK
import Wide.FinOn
import PySem.Challenge.RW_fd0016_01
set_option Elab.async false
namespace Mine
section PartHd
open PySem PySem.W PyProof.Rows
set_option maxRecDepth 100000 in
set_option maxHeartbeats 8000000 in
open_top hd for PySem.Challenge.rw_fd0016_01
end PartHd

section PartA1
open PySem PySem.W PyProof.Rows
set_option maxRecDepth 100000

/-- what is known of one object of the heap -/
inductive Cl where
  | obj (o : Obj)
  | lst (xs : List Value)
  | dct (es : List (Str × Value))
  | cel (v : Option Value)
  | rcd (T : String) (vs : List Value)

/-- a dict's entries, keyed by strs -/
def Ents : List DictEntry → List (Str × Value) → Prop
  | [], [] => True
  | e :: r, p :: r' => (∃ t, e.key = .str p.1 t) ∧ e.val = p.2 ∧ Ents r r'
  | _, _ => False

def lstObj (xs : List Value) (n : Nat) : Obj := { cls := .type "list", dict := none, data := .seq xs.toArray n, slots := #[] }

def Cl.At (h : Heap) (a : Addr) : Cl → Prop
  | .obj o => h.get? a = some o
  | .lst xs => ∃ n, h.get? a = some (lstObj xs n)
  | .dct es => ∃ l n, h.get? a = some (dictOf l n) ∧ Ents l es
  | .cel v => h.IsCell a v
  | .rcd T vs => ∃ o, h.get? a = some o ∧ o.cls = .type T ∧ o.data = .fields vs.toArray

theorem Cl.At.same {h h' : Heap} {a : Addr} {c : Cl} (x : c.At h a) (e : ∀ o, h.get? a = some o → h'.get? a = some o) : c.At h' a := by
  cases c with
  | obj o => exact e _ x
  | lst xs => obtain ⟨n, g⟩ := x; exact ⟨n, e _ g⟩
  | dct es => obtain ⟨l, n, g, r⟩ := x; exact ⟨l, n, e _ g, r⟩
  | cel v => obtain ⟨o, g, d⟩ := x; exact ⟨o, e _ g, d⟩
  | rcd T vs => obtain ⟨o, g, d⟩ := x; exact ⟨o, e _ g, d⟩

theorem Cl.At.there {h : Heap} {a : Addr} {c : Cl} (x : c.At h a) : ∃ o, h.get? a = some o := by
  cases c with
  | obj o => exact ⟨_, x⟩
  | lst xs => obtain ⟨n, g⟩ := x; exact ⟨_, g⟩
  | dct es => obtain ⟨l, n, g, r⟩ := x; exact ⟨_, g⟩
  | cel v => obtain ⟨o, g, d⟩ := x; exact ⟨_, g⟩
  | rcd T vs => obtain ⟨o, g, d⟩ := x; exact ⟨_, g⟩

abbrev NsMap := Str → Option Value
/-- what lies outside the ghost: the outer frames' names, iterators that run -/
inductive Kp where
  | ns (m : NsMap)
  | cl (c : Cl)
  | gen (i : Nat) (g : GenState)
def Kp.At (h : Heap) (a : Addr) : Kp → Prop
  | .ns m => h.Ns a m
  | .cl c => c.At h a
  | .gen i _ => h.IsGen a i
def Kp.gen? : Kp → Option (Nat × GenState)
  | .gen i g => some (i, g)
  | _ => none
theorem Kp.At.same {h h' : Heap} {a : Addr} {k : Kp} (x : k.At h a) (e : ∀ o, h.get? a = some o → h'.get? a = some o) : k.At h' a := by
  cases k with
  | ns m => obtain ⟨o, es, ep, g, r⟩ := x; exact ⟨o, es, ep, e _ g, r⟩
  | cl c => exact Cl.At.same (c := c) x e
  | gen i g => obtain ⟨o, nm, qn, ho, r⟩ := x; exact ⟨o, nm, qn, e _ ho, r⟩
theorem Kp.At.there {h : Heap} {a : Addr} {k : Kp} (x : k.At h a) : ∃ o, h.get? a = some o := by
  cases k with
  | ns m => obtain ⟨o, es, ep, g, r⟩ := x; exact ⟨_, g⟩
  | cl c => exact Cl.At.there (c := c) x
  | gen i g => obtain ⟨o, nm, qn, ho, r⟩ := x; exact ⟨_, ho⟩
/-- the ghost state: the frame's names, the objects known, the generators -/
structure Sg where
  m : NsMap
  at_ : Addr → Option Cl
  gens : Array GenState

def Sg.setL (σ : Sg) (x : Str) (v : Value) : Sg := { σ with m := fun y => if y = x then some v else σ.m y }
def Sg.put (σ : Sg) (a : Addr) (c : Cl) : Sg := { σ with at_ := fun b => if b = a then some c else σ.at_ b }

structure Base where
  w : World
  h : Heap
  os : OsState

abbrev Fs := List (Addr × Kp)
/-- the generators that are under way -/
def gensOf (F : Fs) : List (Nat × GenState) := F.filterMap fun p => p.2.gen?
structure GensOk (F : Fs) (gs : Array GenState) : Prop where
  all : ∀ i g, gs[i]? = some g → g.bare = true ∨ (i, g) ∈ gensOf F
  own : ∀ p ∈ gensOf F, gs[p.1]? = some p.2
  nd : ((gensOf F).map (·.1)).Nodup
theorem GensOk.of {F F' : Fs} {gs : Array GenState} (x : GensOk F gs) (e : gensOf F' = gensOf F) : GensOk F' gs := ⟨fun i g h => by rw [e]; exact x.all i g h, fun p h => x.own p (by rw [← e]; exact h), by rw [e]; exact x.nd⟩
theorem GensOk.perm {F F' : Fs} {gs : Array GenState} (x : GensOk F gs) (e : F.Perm F') : GensOk F' gs := by
  have q : (gensOf F).Perm (gensOf F') := e.filterMap _
  exact ⟨fun i g h => (x.all i g h).imp id fun h => q.mem_iff.mp h, fun p h => x.own p (q.mem_iff.mpr h), (q.map _).nodup_iff.mp x.nd⟩
theorem gensOf_cons {p : Addr × Kp} {F : Fs} (h : p.2.gen? = none) : gensOf (p :: F) = gensOf F := by
  unfold gensOf; rw [List.filterMap_cons, h]

structure St (b : Base) (F : Fs) (L : Addr) (σ : Sg) (s : Shared) : Prop where
  ns : s.heap.Ns L σ.m
  fr : ∀ p ∈ F, p.2.At s.heap p.1
  nd : (F.map (·.1)).Nodup
  keep : ∀ x o, b.h.get? x = some o → s.heap.get? x = some o
  cl : ∀ a c, σ.at_ a = some c → c.At s.heap a
  offL : b.h.get? L = none ∧ σ.at_ L = none ∧ ∀ p ∈ F, p.1 ≠ L
  offF : ∀ p ∈ F, b.h.get? p.1 = none ∧ σ.at_ p.1 = none
  offC : ∀ a c, σ.at_ a = some c → b.h.get? a = none
  gens : GensOk F s.gens
  os : s.os = b.os

abbrev P := PySem.Challenge.pw_fd0016_01

def W (b : Base) (A : Around) (F : Fs) (L : Addr) {α : Type} (t : Sem α) (σ : Sg) (Q : α → Sg → Prop) : Prop :=
  ∀ s E, St b F L σ s → wpAny (model P b.w) A t (fun a s' => ∃ σ', St b F L σ' s' ∧ Q a σ') E s

section
variable {b : Base} {A : Around} {F : Fs} {L : Addr} {α β : Type} {σ : Sg}

theorem W.mono {t : Sem α} {Q Q' : α → Sg → Prop} (h : W b A F L t σ Q) (k : ∀ a σ', Q a σ' → Q' a σ') : W b A F L t σ Q' :=
  fun s E x => wpAny_mono (h s E x) (fun a s' ⟨σ', y, q⟩ => ⟨σ', y, k a σ' q⟩) fun _ _ e => e
theorem W.pure {a : α} {Q : α → Sg → Prop} (h : Q a σ) : W b A F L (pure a) σ Q := fun _ _ x => wpAny_pure ⟨σ, x, h⟩
theorem W.bind {t : Sem α} {f : α → Sem β} {Q : β → Sg → Prop} (h : W b A F L t σ fun a σ' => W b A F L (f a) σ' Q) : W b A F L (t >>= f) σ Q :=
  fun s E x => wpAny_bind (wpAny_mono (h s E x) (fun a s' ⟨σ', y, q⟩ => q s' E y) fun _ _ e => e)
theorem W.hold {vs : List Value} {t : Sem α} {Q : α → Sg → Prop} (h : W b A F L t σ Q) : W b A F L (holding vs t) σ Q := fun s E x => wpAny_holding (h s E x)
theorem W.stand {p : Pos} {Q : Unit → Sg → Prop} (h : Q () σ) : W b A F L (standAt p) σ Q := fun _ _ x => wpAny_standAt ⟨σ, x, h⟩
theorem W.in1 {t : Sem α} {Q : α → Sg → Prop} (h : W b A.in1 F L t σ Q) : W b A F L t σ Q := fun s E x => wpAny_of_in1 (h s E x)
theorem W.ite {c : Prop} [Decidable c] {t u : Sem α} {Q : α → Sg → Prop} (h1 : c → W b A F L t σ Q) (h2 : ¬ c → W b A F L u σ Q) : W b A F L (if c then t else u) σ Q := by
  split
  · exact h1 ‹_›
  · exact h2 ‹_›

/-- an object more -/
theorem St.alloc {s : Shared} {o : Obj} {c : Cl} (x : St b F L σ s) (hc : c.At (s.heap.push o) s.heap.objs.size) :
    σ.at_ s.heap.objs.size = none ∧ St b F L (σ.put s.heap.objs.size c) { s with heap := s.heap.push o } := by
  have old : ∀ y o', s.heap.get? y = some o' → y ≠ s.heap.objs.size := fun y o' e q => Nat.lt_irrefl _ (q ▸ Heap.lt_size e)
  have nn : σ.at_ s.heap.objs.size = none := by
    cases q : σ.at_ s.heap.objs.size with
    | none => rfl
    | some c' => obtain ⟨o', e⟩ := (x.cl _ _ q).there; exact absurd rfl (old _ _ e)
  have hL : L ≠ s.heap.objs.size := by obtain ⟨o', _, _, e, _⟩ := x.ns; exact old _ _ e
  have hF : ∀ p ∈ F, p.1 ≠ s.heap.objs.size := fun p hp => by obtain ⟨o', e⟩ := (x.fr p hp).there; exact old _ _ e
  have hb : b.h.get? s.heap.objs.size = none := by
    cases q : b.h.get? s.heap.objs.size with
    | none => rfl
    | some o' => exact absurd rfl (old _ _ (x.keep _ _ q))
  refine ⟨nn, x.ns.push o, fun p hp => (x.fr p hp).same fun o' e => Heap.get?_push_of_some _ e, x.nd, fun y o' e => Heap.get?_push_of_some _ (x.keep y o' e), fun a c' e => ?_, ⟨x.offL.1, ?_, x.offL.2.2⟩, fun p hp => ⟨(x.offF p hp).1, ?_⟩, fun a c' e => ?_, x.gens, x.os⟩
  · simp only [Sg.put] at e
    split at e
    · rename_i h; subst h; cases e; exact hc
    · exact (x.cl a c' e).same fun o' e => Heap.get?_push_of_some _ e
  · simp only [Sg.put, if_neg hL]; exact x.offL.2.1
  · simp only [Sg.put, if_neg (hF p hp)]; exact (x.offF p hp).2
  · simp only [Sg.put] at e
    split at e
    · rename_i h; subst h; exact hb
    · exact x.offC a c' e

/-- a known object changed -/
theorem St.change {s : Shared} {h' : Heap} {a : Addr} {c₀ c : Cl} (x : St b F L σ s) (h0 : σ.at_ a = some c₀) (hs : Heap.SameBut a s.heap h') (hc : c.At h' a) : St b F L (σ.put a c) { s with heap := h' } := by
  have oth : ∀ y o, y ≠ a → s.heap.get? y = some o → h'.get? y = some o := fun y o n e => (hs.2 y n).trans e
  have hL : L ≠ a := fun e => by have := x.offL.2.1; rw [e, h0] at this; cases this
  have hF : ∀ p ∈ F, p.1 ≠ a := fun p hp e => by have := (x.offF p hp).2; rw [e, h0] at this; cases this
  have hb : ∀ y o, b.h.get? y = some o → y ≠ a := fun y o e q => by have := x.offC a _ h0; rw [← q, e] at this; cases this
  refine ⟨x.ns.sameBut hs hL, fun p hp => (x.fr p hp).same fun o e => oth _ _ (hF p hp) e, x.nd, fun y o e => oth y o (hb y o e) (x.keep y o e), fun a' c' e => ?_, ⟨x.offL.1, ?_, x.offL.2.2⟩, fun p hp => ⟨(x.offF p hp).1, ?_⟩, fun a' c' e => ?_, x.gens, x.os⟩
  · simp only [Sg.put] at e
    split at e
    · rename_i h; subst h; cases e; exact hc
    · rename_i h; exact (x.cl a' c' e).same fun o e => oth _ _ h e
  · simp only [Sg.put, if_neg hL]; exact x.offL.2.1
  · simp only [Sg.put, if_neg (hF p hp)]; exact (x.offF p hp).2
  · simp only [Sg.put] at e
    split at e
    · rename_i h; subst h; exact x.offC _ _ h0
    · exact x.offC a' c' e

/-- the frame's own dict changed -/
theorem St.local {s : Shared} {h' : Heap} {m' : NsMap} {t : Nat} (x : St b F L σ s) (hn : h'.Ns L m') (hs : Heap.SameBut L s.heap h') : St b F L { σ with m := m' } { s with heap := h', toks := t } := by
  have oth : ∀ y o, y ≠ L → s.heap.get? y = some o → h'.get? y = some o := fun y o n e => (hs.2 y n).trans e
  refine ⟨hn, fun p hp => (x.fr p hp).same fun o e => oth _ _ (x.offL.2.2 p hp) e, x.nd, fun y o e => oth y o (fun q => by have := x.offL.1; rw [← q, e] at this; cases this) (x.keep y o e), fun a c e => ?_, x.offL, x.offF, x.offC, x.gens, x.os⟩
  exact (x.cl a c e).same fun o g => oth a o (fun q => by have := x.offL.2.1; rw [← q, e] at this; cases this) g

theorem St.toks {s : Shared} (x : St b F L σ s) (t : Nat) : St b F L σ { s with toks := t } := ⟨x.ns, x.fr, x.nd, x.keep, x.cl, x.offL, x.offF, x.offC, x.gens, x.os⟩

/-- an iterator more, out of sight -/
theorem St.allocF {s : Shared} {o : Obj} {k : Kp} (x : St b F L σ s) (hc : k.At (s.heap.push o) s.heap.objs.size) (hg : k.gen? = none := by rfl) :
    σ.at_ s.heap.objs.size = none ∧ St b ((s.heap.objs.size, k) :: F) L σ { s with heap := s.heap.push o } := by
  have old : ∀ y o', s.heap.get? y = some o' → y ≠ s.heap.objs.size := fun y o' e q => Nat.lt_irrefl _ (q ▸ Heap.lt_size e)
  have nn : σ.at_ s.heap.objs.size = none := by
    cases q : σ.at_ s.heap.objs.size with
    | none => rfl
    | some c' => obtain ⟨o', e⟩ := (x.cl _ _ q).there; exact absurd rfl (old _ _ e)
  have hL : L ≠ s.heap.objs.size := by obtain ⟨o', _, _, e, _⟩ := x.ns; exact old _ _ e
  have hF : ∀ p ∈ F, p.1 ≠ s.heap.objs.size := fun p hp => by obtain ⟨o', e⟩ := (x.fr p hp).there; exact old _ _ e
  have hb : b.h.get? s.heap.objs.size = none := by
    cases q : b.h.get? s.heap.objs.size with
    | none => rfl
    | some o' => exact absurd rfl (old _ _ (x.keep _ _ q))
  refine ⟨nn, x.ns.push o, fun p hp => ?_, ?_, fun y o' e => Heap.get?_push_of_some _ (x.keep y o' e), fun a c' e => (x.cl a c' e).same fun o' e => Heap.get?_push_of_some _ e, ⟨x.offL.1, x.offL.2.1, fun p hp => ?_⟩, fun p hp => ?_, x.offC, x.gens.of (gensOf_cons hg), x.os⟩
  · rcases List.mem_cons.mp hp with rfl | hp
    · exact hc
    · exact (x.fr p hp).same fun o' e => Heap.get?_push_of_some _ e
  · rw [List.map_cons, List.nodup_cons]
    exact ⟨fun h => by obtain ⟨p, hp, e⟩ := List.mem_map.mp h; exact hF p hp e, x.nd⟩
  · rcases List.mem_cons.mp hp with rfl | hp
    · exact Ne.symm hL
    · exact x.offL.2.2 p hp
  · rcases List.mem_cons.mp hp with rfl | hp
    · exact ⟨hb, nn⟩
    · exact x.offF p hp
theorem St.changeF {s : Shared} {h' : Heap} {a : Addr} {k k' : Kp} (x : St b ((a, k) :: F) L σ s) (hs : ∀ y o, y ≠ a → s.heap.get? y = some o → h'.get? y = some o) (hc : k'.At h' a) (hg : k'.gen? = k.gen? := by rfl) : St b ((a, k') :: F) L σ { s with heap := h' } := by
  have hL : a ≠ L := x.offL.2.2 _ (.head _)
  have hF : ∀ p ∈ F, p.1 ≠ a := fun p hp e => by have := (List.nodup_cons.mp x.nd).1; exact this (List.mem_map.mpr ⟨p, hp, e⟩)
  have hb : ∀ y o, b.h.get? y = some o → y ≠ a := fun y o e q => by have := (x.offF _ (.head _)).1; rw [← q] at this; rw [e] at this; cases this
  have hC : ∀ y c, σ.at_ y = some c → y ≠ a := fun y c e q => by have := (x.offF _ (.head _)).2; rw [← q] at this; rw [e] at this; cases this
  refine ⟨?_, fun p hp => ?_, x.nd, fun y o e => hs y o (hb y o e) (x.keep y o e), fun y c e => (x.cl y c e).same fun o g => hs _ _ (hC y c e) g, ⟨x.offL.1, x.offL.2.1, fun p hp => ?_⟩, fun p hp => ?_, x.offC, x.gens.of (by unfold gensOf; rw [List.filterMap_cons, List.filterMap_cons]; simp only [hg]), x.os⟩
  · obtain ⟨o, es, ep, g, r⟩ := x.ns; exact ⟨o, es, ep, hs _ _ (Ne.symm hL) g, r⟩
  · rcases List.mem_cons.mp hp with rfl | hp
    · exact hc
    · exact (x.fr p (.tail _ hp)).same fun o g => hs _ _ (hF p hp) g
  · rcases List.mem_cons.mp hp with rfl | hp
    · exact hL
    · exact x.offL.2.2 p (.tail _ hp)
  · rcases List.mem_cons.mp hp with rfl | hp
    · exact x.offF (a, k) (.head _)
    · exact x.offF p (.tail _ hp)
theorem St.dropF {s : Shared} {p : Addr × Kp} (x : St b (p :: F) L σ s) (hg : p.2.gen? = none := by rfl) : St b F L σ s :=
  ⟨x.ns, fun q hq => x.fr q (.tail _ hq), (List.nodup_cons.mp x.nd).2, x.keep, x.cl, ⟨x.offL.1, x.offL.2.1, fun q hq => x.offL.2.2 q (.tail _ hq)⟩, fun q hq => x.offF q (.tail _ hq), x.offC, x.gens.of (gensOf_cons hg).symm, x.os⟩

end
end PartA1

section PartA2
open PySem PySem.W PyProof.Rows PySem.Calls
set_option maxRecDepth 100000

noncomputable abbrev Kb (b : Base) : Frag := Mine.hd.heap_39 b.w.params
/-- what the world's part says -/
structure Glb (b : Base) : Prop where
  k : (Kb b).In b.h
  lim : b.h.NoLimit
  glob : ∃ mg, b.h.Ns mainGlobals mg ∧ ∀ (x : Str) r, nsIn (Kb b) mainGlobals x = some r → mg x = r
  bui : ∃ mb, b.h.Ns builtinsNs mb ∧ ∀ x : Str, x ≠ ("__name__" : Str) → mb x = bootBuiltins x

section
variable {b : Base} {A : Around} {F : Fs} {L : Addr} {α β γ : Type} {σ : Sg} {env : Env}

theorem W.lift {t : Sem α} {u : Sem γ} {k : γ → Sem α} {Q : α → Sg → Prop}
    (rule : ∀ s E (Q : α → Shared → Prop), wpAny (model P b.w) A u (fun v s1 => wpAny (model P b.w) A (k v) Q E s1) E s → wpAny (model P b.w) A t Q E s)
    (h : W b A F L u σ fun v σ' => W b A F L (k v) σ' Q) : W b A F L t σ Q :=
  fun s E x => rule s E _ (wpAny_mono (h s E x) (fun _ s' ⟨_, y, q⟩ => q s' E y) fun _ _ e => e)
theorem W.lift0 {t : Sem α} {u : Sem γ} {f : γ → α} {Q : α → Sg → Prop}
    (rule : ∀ s E (Q : α → Shared → Prop), wpAny (model P b.w) A u (fun v s1 => Q (f v) s1) E s → wpAny (model P b.w) A t Q E s)
    (h : W b A F L u σ fun v σ' => Q (f v) σ') : W b A F L t σ Q :=
  fun s E x => rule s E _ (wpAny_mono (h s E x) (fun _ _ ⟨σ', y, q⟩ => ⟨σ', y, q⟩) fun _ _ e => e)

-- statements
theorem w_nil {Q : Flow → Sg → Prop} (h : Q .next σ) : W b A F L (execs [] env) σ Q := fun _ _ x => wpAny_execs_nil ⟨σ, x, h⟩
theorem w_cons {st rest} {Q : Flow → Sg → Prop} (h : W b A F L (exec st env) σ fun f σ' => match f with | .next => W b A F L (execs rest env) σ' Q | f => Q f σ') :
    W b A F L (execs (st :: rest) env) σ Q := fun s E x => wpAny_execs_cons (wpAny_mono (h s E x) (fun f s' ⟨σ', y, q⟩ => by cases f <;> first | exact q s' E y | exact ⟨σ', y, q⟩) fun _ _ e => e)
theorem w_assign {x pos' value pos} {Q : Flow → Sg → Prop} (h : W b A F L (eval value env) σ fun v σ' => W b A F L (storeName env x v) σ' fun _ => Q .next)
    (hs : swapsWith value (some (.Name x pos')) pos.line env = pure false := by with_unfolding_all rfl) : W b A F L (exec (.Assign [.Name x pos'] value pos) env) σ Q :=
  fun s E x => wpAny_Assign_Name (wpAny_mono (h s E x) (fun _ s' ⟨_, y, q⟩ => q s' E y) fun _ _ e => e) hs
theorem w_if {test body orelse pos} {Q : Flow → Sg → Prop} (h : W b A F L (isTrue test env (eval test env)) σ fun t σ' => (t = true → W b A F L (execs body env) σ' Q) ∧ (t = false → W b A F L (execs orelse env) σ' Q)) :
    W b A F L (exec (.If test body orelse pos) env) σ Q :=
  fun s E x => wpAny_If (wpAny_mono (h s E x) (fun t s' ⟨_, y, q⟩ => by cases t; exact q.2 rfl s' E y; exact q.1 rfl s' E y) fun _ _ e => e)
theorem w_ret {e pos} {Q : Flow → Sg → Prop} (h : W b A F L (eval e env) σ fun v => Q (.ret v)) : W b A F L (exec (.Return (some e) pos) env) σ Q := fun s E x => wpAny_Return_some (h s E x)
theorem w_brk {pos} {Q : Flow → Sg → Prop} (h : Q .brk σ) : W b A F L (exec (.Break pos) env) σ Q := fun _ _ x => wpAny_Break ⟨σ, x, h⟩
theorem w_cont {pos} {Q : Flow → Sg → Prop} (h : Q .cont σ) : W b A F L (exec (.Continue pos) env) σ Q := fun _ _ x => wpAny_Continue ⟨σ, x, h⟩
theorem w_expr {e pos} {Q : Flow → Sg → Prop} (h : W b A F L (eval e env) σ fun v σ' => (∀ a, v ≠ .ref a) ∧ Q .next σ')
    (hi : interactive env = false := by with_unfolding_all rfl) (hs : swapsWith e none pos.line env = pure false := by with_unfolding_all rfl) : W b A F L (exec (.Expr e pos) env) σ Q :=
  fun s E x => wpAny_Expr (wpAny_mono (h s E x) (fun v s' ⟨σ', y, q⟩ => by cases v <;> first | exact absurd rfl (q.1 _) | exact ⟨σ', y, q.2⟩) fun _ _ e => e) hi hs

-- tests
theorem w_not {x pos whole} {Q : Bool → Sg → Prop} (h : W b A F L (isTrue x env (eval x env)) σ fun t => Q (!t)) : W b A F L (isTrue (.UnaryOp .Not x pos) env whole) σ Q := fun s E x => wpAny_isTrue_Not (h s E x)
theorem w_bool {op values pos whole} {Q : Bool → Sg → Prop} (h : W b A F L (allTrue op values env) σ Q) : W b A F L (isTrue (.BoolOp op values pos) env whole) σ Q := fun s E x => wpAny_isTrue_BoolOp (h s E x)
theorem w_andNil {Q : Bool → Sg → Prop} (h : Q true σ) : W b A F L (allTrue .And [] env) σ Q := fun _ _ x => wpAny_allTrue_And_nil ⟨σ, x, h⟩
theorem w_orNil {Q : Bool → Sg → Prop} (h : Q false σ) : W b A F L (allTrue .Or [] env) σ Q := fun _ _ x => wpAny_allTrue_Or_nil ⟨σ, x, h⟩
theorem w_and {x rest} {Q : Bool → Sg → Prop} (h : W b A F L (isTrue x env (eval x env)) σ fun t σ' => (t = true → W b A F L (allTrue .And rest env) σ' Q) ∧ (t = false → Q false σ')) :
    W b A F L (allTrue .And (x :: rest) env) σ Q :=
  fun s E x => wpAny_allTrue_And_cons (wpAny_mono (h s E x) (fun t s' ⟨σ', y, q⟩ => by cases t; exact ⟨σ', y, q.2 rfl⟩; exact q.1 rfl s' E y) fun _ _ e => e)
theorem w_or {x rest} {Q : Bool → Sg → Prop} (h : W b A F L (isTrue x env (eval x env)) σ fun t σ' => (t = true → Q true σ') ∧ (t = false → W b A F L (allTrue .Or rest env) σ' Q)) :
    W b A F L (allTrue .Or (x :: rest) env) σ Q :=
  fun s E x => wpAny_allTrue_Or_cons (wpAny_mono (h s E x) (fun t s' ⟨σ', y, q⟩ => by cases t; exact q.2 rfl s' E y; exact ⟨σ', y, q.1 rfl⟩) fun _ _ e => e)
theorem w_tcmp {l op r pos whole} {Q : Bool → Sg → Prop} (h : W b A F L (eval l env) σ fun a σ₁ => W b A F L (eval r env) σ₁ fun c σ₂ => W b A F L (compareOp op a c) σ₂ fun d σ₃ => W b A F L (truthy d) σ₃ Q)
    (hm : behindInMarks op r = false := by with_unfolding_all rfl) : W b A F L (isTrue (.Compare l [op] [r] pos) env whole) σ Q :=
  fun s E x => wpAny_isTrue_Compare1 (wpAny_mono (h s E x) (fun _ s' ⟨_, y, q⟩ => wpAny_mono (q s' E y) (fun _ s' ⟨_, y, q⟩ => wpAny_mono (q s' E y) (fun _ s' ⟨_, y, q⟩ => q s' E y) fun _ _ e => e) fun _ _ e => e) fun _ _ e => e) hm
theorem w_tval {e whole} {Q : Bool → Sg → Prop} (h : W b A F L whole σ fun v σ₁ => W b A F L (truthy v) σ₁ Q) (he : isTrue e env whole = (do let v ← whole; standAt e.pos; holding [v] (truthy v)) := by with_unfolding_all rfl) :
    W b A F L (isTrue e env whole) σ Q := W.lift (fun _ _ _ h => wpAny_isTrue_value h he) h

-- expressions
theorem w_none {k pos} {Q : Value → Sg → Prop} (h : Q .none σ) : W b A F L (eval (.Constant .none k pos) env) σ Q := fun _ _ x => wpAny_Constant_none ⟨σ, x, h⟩
theorem w_tf {c k pos} {Q : Value → Sg → Prop} (h : Q (.bool c) σ) : W b A F L (eval (.Constant (.bool c) k pos) env) σ Q := fun _ _ x => wpAny_Constant_bool ⟨σ, x, h⟩
theorem w_int {i k pos} {Q : Value → Sg → Prop} (h : ∀ t, Q (.int i t) σ) : W b A F L (eval (.Constant (.int i) k pos) env) σ Q := fun _ _ x => wpAny_Constant_int ⟨σ, x.toks _, h _⟩
theorem w_str {i k pos} {Q : Value → Sg → Prop} (h : ∀ t, Q (.str i t) σ) : W b A F L (eval (.Constant (.str i) k pos) env) σ Q := fun _ _ x => wpAny_Constant_str ⟨σ, x.toks _, h _⟩
theorem w_binop {l op r pos} {Q : Value → Sg → Prop} (h : W b A F L (eval l env) σ fun a σ₁ => W b A F L (eval r env) σ₁ fun c σ₂ => W b A F L (binaryOp op a c) σ₂ Q) : W b A F L (eval (.BinOp l op r pos) env) σ Q :=
  fun s E x => wpAny_BinOp (wpAny_mono (h s E x) (fun _ s' ⟨_, y, q⟩ => wpAny_mono (q s' E y) (fun _ s' ⟨_, y, q⟩ => q s' E y) fun _ _ e => e) fun _ _ e => e)
theorem w_cmp {l op r pos} {Q : Value → Sg → Prop} (h : W b A F L (eval l env) σ fun a σ₁ => W b A F L (eval r env) σ₁ fun c σ₂ => W b A F L (compareOp op a c) σ₂ Q)
    (hm : behindInMarks op r = false := by with_unfolding_all rfl) : W b A F L (eval (.Compare l [op] [r] pos) env) σ Q :=
  fun s E x => wpAny_Compare1 (wpAny_mono (h s E x) (fun _ s' ⟨_, y, q⟩ => wpAny_mono (q s' E y) (fun _ s' ⟨_, y, q⟩ => q s' E y) fun _ _ e => e) fun _ _ e => e) hm
theorem w_unop {op x pos} {Q : Value → Sg → Prop} (h : W b A F L (eval x env) σ fun v σ₁ => W b A F L (unaryOp op v) σ₁ Q) : W b A F L (eval (.UnaryOp op x pos) env) σ Q := W.lift (fun _ _ _ h => wpAny_UnaryOp h) h
theorem w_notv {v} {Q : Value → Sg → Prop} (h : W b A F L (truthy v) σ fun c => Q (.bool (!c))) : W b A F L (unaryOp .Not v) σ Q := fun s E x => not_value (h s E x)
theorem w_ifexp {test body orelse pos} {Q : Value → Sg → Prop} (h : W b A F L (isTrue test env (eval test env)) σ fun t σ' => (t = true → W b A F L (eval body env) σ' Q) ∧ (t = false → W b A F L (eval orelse env) σ' Q)) :
    W b A F L (eval (.IfExp test body orelse pos) env) σ Q :=
  fun s E x => wpAny_IfExp (wpAny_mono (h s E x) (fun t s' ⟨_, y, q⟩ => by cases t; exact q.2 rfl s' E y; exact q.1 rfl s' E y) fun _ _ e => e)
theorem w_truthyB {c : Bool} {Q : Bool → Sg → Prop} (h : Q c σ) : W b A F L (truthy (.bool c)) σ Q := fun _ _ x => wpAny_truthy_bool ⟨σ, x, h⟩
theorem w_attr {value attr pos} {Q : Value → Sg → Prop} (h : W b A F L (eval value env) σ fun o σ₁ => W b A F L (getAttr o attr true) σ₁ Q)
    (he : eval (.Attribute value attr pos) env = (do
      let o ← eval value env
      standAt pos.atName
      let r ← holding [o] (getAttr o attr true)
      letTemporaryGo value o r
      pure r) := by with_unfolding_all rfl) : W b A F L (eval (.Attribute value attr pos) env) σ Q := W.lift (fun _ _ _ h => Attribute_any_ h he) h
/-- a tuple of items, in order -/
theorem w_items0 {pos} {Q : List Value → Sg → Prop} (h : Q [] σ) : W b A F L (spliced (backTo pos (starEach [] env))) σ Q := fun _ _ x => wpAny_items_nil ⟨σ, x, h⟩
theorem w_items {pos e rest} {Q : List Value → Sg → Prop} (h : W b A F L (eval e env) σ fun v σ₁ => W b A F L (spliced (backTo pos (starEach rest env))) σ₁ fun vs => Q (v :: vs))
    (he : starEach (e :: rest) env = (false, eval e env) :: starEach rest env := by with_unfolding_all rfl) : W b A F L (spliced (backTo pos (starEach (e :: rest) env))) σ Q :=
  fun s E x => wpAny_items_cons (wpAny_mono (h s E x) (fun _ s' ⟨_, y, q⟩ => q s' E y) fun _ _ e => e) he

-- names
theorem w_local {x pos v} {Q : Value → Sg → Prop} (hL : env.locals = L) (hv : σ.m x = some v) (h : Q v σ) (hk : env.scope.kind = .function := by with_unfolding_all rfl) (hl : env.kindOf x = some .local := by with_unfolding_all rfl)
    (hd : (x == ("__debug__" : Str)) = false := by decide) : W b A F L (eval (.Name x pos) env) σ Q := fun _ _ y => wpAny_Name (wpAny_loadName_local hk hl (hL ▸ y.ns) hv ⟨σ, y, h⟩) hd
theorem w_cell {x pos v c} {Q : Value → Sg → Prop} (hc : env.cells.lookup x = some c) (hv : σ.at_ c = some (.cel (some v))) (h : Q v σ) (hk : env.scope.kind = .function := by with_unfolding_all rfl) (hl : env.kindOf x = some .cell := by with_unfolding_all rfl)
    (hd : (x == ("__debug__" : Str)) = false := by decide) : W b A F L (eval (.Name x pos) env) σ Q := fun _ _ y => wpAny_Name (wpAny_loadName_cell hk hl hc (y.cl _ _ hv) ⟨σ, y, h⟩) hd
theorem w_free {x pos v c} {Q : Value → Sg → Prop} (hc : env.cells.lookup x = some c) (hv : σ.at_ c = some (.cel (some v))) (h : Q v σ) (hk : env.scope.kind = .function := by with_unfolding_all rfl) (hl : env.kindOf x = some .free := by with_unfolding_all rfl)
    (hd : (x == ("__debug__" : Str)) = false := by decide) (hn : (x == ("__classdict__" : Str)) = false := by decide) : W b A F L (eval (.Name x pos) env) σ Q :=
  fun _ _ y => wpAny_Name (wpAny_loadName_free hk hl hc (y.cl _ _ hv) ⟨σ, y, h⟩ hn) hd
theorem w_glob {x pos v} {Q : Value → Sg → Prop} (G : Glb b) (e : nsIn (Kb b) mainGlobals x = some (some v)) (h : Q v σ) (hg : env.globals = mainGlobals := by with_unfolding_all rfl) (hk : env.scope.kind = .function := by with_unfolding_all rfl)
    (hx : env.kindOf x = some .globalImplicit := by with_unfolding_all rfl) (hd : (x == ("__debug__" : Str)) = false := by decide) : W b A F L (eval (.Name x pos) env) σ Q := fun s E y => by
  obtain ⟨mg, hn, hv⟩ := G.glob
  exact Name_function_global hk hx (loadGlobal_global (mg := mg) (by rw [hg]; exact hn.keeps y.keep) (hv _ _ e) ⟨σ, y, h⟩) hd
theorem w_bui {x : Str} {pos v} {Q : Value → Sg → Prop} (G : Glb b) (e : nsIn (Kb b) mainGlobals x = some none) (hv : bootBuiltins x = some v) (h : Q v σ) (hn : x ≠ ("__name__" : Str) := by decide) (hg : env.globals = mainGlobals := by with_unfolding_all rfl)
    (hb : env.builtins = builtinsNs := by with_unfolding_all rfl) (hk : env.scope.kind = .function := by with_unfolding_all rfl)
    (hx : env.kindOf x = some .globalImplicit := by with_unfolding_all rfl) (hd : (x == ("__debug__" : Str)) = false := by decide) : W b A F L (eval (.Name x pos) env) σ Q := fun s E y => by
  obtain ⟨mg, hn1, hv1⟩ := G.glob
  obtain ⟨mb, hn2, hv2⟩ := G.bui
  exact Name_function_global hk hx (loadGlobal_builtin (mg := mg) (mb := mb) (by rw [hg]; exact hn1.keeps y.keep) (hv1 _ _ e) (by rw [hb]; exact hn2.keeps y.keep) ((hv2 _ hn).trans hv) ⟨σ, y, h⟩) hd
theorem w_storeL {x v} {Q : Unit → Sg → Prop} (hL : env.locals = L) (h : Q () (σ.setL x v)) (hk : env.scope.kind = .function := by with_unfolding_all rfl) (hl : env.kindOf x = some .local := by with_unfolding_all rfl) : W b A F L (storeName env x v) σ Q :=
  fun _ _ y => wpAny_storeName_local hl (hL ▸ y.ns) (fun _ hn hs => ⟨_, y.local (hL ▸ hn) (hL ▸ hs), h⟩) (by rw [hk]; rfl)
theorem w_storeC {x v c u} {Q : Unit → Sg → Prop} (hc : env.cells.lookup x = some c) (hv : σ.at_ c = some (.cel u)) (h : Q () (σ.put c (.cel (some v)))) (hk : env.scope.kind = .function := by with_unfolding_all rfl)
    (hl : env.kindOf x = some .cell := by with_unfolding_all rfl) : W b A F L (storeName env x v) σ Q :=
  fun _ _ y => wpAny_storeName_cell hk hl hc (y.cl _ _ hv) fun _ hn hs => ⟨_, y.change (c := .cel (some v)) hv hs hn, h⟩

-- objects
theorem w_newList {vs : List Value} {Q : Value → Sg → Prop} (hz : vs.length ≤ sizeLine) (h : ∀ l, σ.at_ l = none → Q (.ref l) (σ.put l (.lst vs))) : W b A F L (newList vs) σ Q := fun s E y => by
  have z := y.alloc (o := lstObj vs 0) (c := .lst vs) ⟨0, Heap.get?_push_size _ rfl⟩
  exact wpAny_newObj_type ⟨_, z.2, h _ z.1⟩ (by show vs.toArray.size ≤ sizeLine; rw [List.size_toArray]; exact hz)
def tupObj (vs : List Value) : Obj := { cls := .type "tuple", data := .seq vs.toArray }
theorem w_newTuple {vs : List Value} {Q : Value → Sg → Prop} (hz : vs.length ≤ sizeLine) (h : ∀ l, σ.at_ l = none → Q (.ref l) (σ.put l (.obj (tupObj vs)))) : W b A F L (newTuple vs) σ Q := fun s E y => by
  have z := y.alloc (o := tupObj vs) (c := .obj (tupObj vs)) (Heap.get?_push_size _ rfl)
  exact wpAny_newObj_type ⟨_, z.2, h _ z.1⟩ (by show vs.toArray.size ≤ sizeLine; rw [List.size_toArray]; exact hz)
theorem w_list {elts pos} {Q : Value → Sg → Prop} (h : W b A F L (spliced (backTo pos (starEach elts env))) σ fun vs σ₁ => W b A F L (newList vs) σ₁ Q) : W b A F L (eval (.List elts pos) env) σ Q := W.lift (fun _ _ _ h => List_ h) h
theorem w_tuple {elts k pos} {Q : Value → Sg → Prop} (h : W b A F L (spliced (backTo pos (starEach elts env))) σ fun vs σ₁ => W b A F L (newTuple vs) σ₁ Q) : W b A F L (eval (.Tuple elts k pos) env) σ Q := W.lift (fun _ _ _ h => Tuple_ h) h
theorem w_append {l : Addr} {xs : List Value} {v : Value} {Q : Value → Sg → Prop} (hl : σ.at_ l = some (.lst xs)) (hz : xs.length ≤ sizeLine) (h : Q .none (σ.put l (.lst (xs ++ [v])))) :
    W b A F L (call (.builtin "list.append") [.ref l, v]) σ Q := fun s E y => by
  obtain ⟨n, hn⟩ := y.cl _ _ hl
  refine append_at (n := n) (hsz := by simpa using hz) (its := xs.toArray) (D := l) hn fun h' hs ho' => ⟨_, y.change (c := .lst (xs ++ [v])) hl hs ⟨n + 1, ?_⟩, h⟩
  rw [ho']; simp [lstObj]
end
end PartA2

section PartA3
open PySem PySem.W PyProof.Rows PySem.Calls
set_option maxRecDepth 100000

section
variable {b : Base} {A : Around} {F : Fs} {L : Addr} {α β γ : Type} {σ : Sg} {env : Env}

/-- a frame more -/
theorem St.enter {s : Shared} {T : Value} (x : St b F L σ s) :
    St b ((L, .ns σ.m) :: F) s.heap.objs.size { σ with m := fun _ => none } { s with heap := s.heap.push { cls := T, data := .dict #[] } } := by
  have old : ∀ y o', s.heap.get? y = some o' → y ≠ s.heap.objs.size := fun y o' e q => Nat.lt_irrefl _ (q ▸ Heap.lt_size e)
  have nn : σ.at_ s.heap.objs.size = none := by
    cases q : σ.at_ s.heap.objs.size with
    | none => rfl
    | some c' => obtain ⟨o', e⟩ := (x.cl _ _ q).there; exact absurd rfl (old _ _ e)
  have hL : L ≠ s.heap.objs.size := by obtain ⟨o', _, _, e, _⟩ := x.ns; exact old _ _ e
  have hF : ∀ p ∈ F, p.1 ≠ s.heap.objs.size := fun p hp => by obtain ⟨o', e⟩ := (x.fr p hp).there; exact old _ _ e
  have hb : b.h.get? s.heap.objs.size = none := by
    cases q : b.h.get? s.heap.objs.size with
    | none => rfl
    | some o' => exact absurd rfl (old _ _ (x.keep _ _ q))
  refine ⟨Heap.Ns.new s.heap T, fun p hp => ?_, ?_, fun y o' e => Heap.get?_push_of_some _ (x.keep y o' e), fun a c' e => (x.cl a c' e).same fun o' e => Heap.get?_push_of_some _ e, ⟨hb, nn, fun p hp => ?_⟩, fun p hp => ?_, x.offC, x.gens.of (gensOf_cons rfl), x.os⟩
  · rcases List.mem_cons.mp hp with rfl | hp
    · exact x.ns.push _
    · exact (x.fr p hp).same fun o' e => Heap.get?_push_of_some _ e
  · rw [List.map_cons, List.nodup_cons]
    exact ⟨fun h => by obtain ⟨p, hp, e⟩ := List.mem_map.mp h; exact x.offL.2.2 p hp e, x.nd⟩
  · rcases List.mem_cons.mp hp with rfl | hp
    · exact hL
    · exact hF p hp
  · rcases List.mem_cons.mp hp with rfl | hp
    · exact ⟨x.offL.1, x.offL.2.1⟩
    · exact x.offF p hp
/-- the frame left -/
theorem St.leave {s : Shared} {m : NsMap} {L' : Addr} (x : St b ((L, .ns m) :: F) L' σ s) : St b F L { σ with m := m } s :=
  ⟨x.fr _ (.head _), fun p hp => x.fr p (.tail _ hp), (List.nodup_cons.mp x.nd).2, x.keep, x.cl, ⟨(x.offF _ (.head _)).1, (x.offF _ (.head _)).2, fun p hp e => (List.nodup_cons.mp x.nd).1 (List.mem_map.mpr ⟨p, hp, e⟩)⟩, fun p hp => x.offF p (.tail _ hp), x.offC, x.gens.of (gensOf_cons rfl).symm, x.os⟩

def CellK : List (Str × NameKind) → List (Str × Addr) → Sg → (List (Str × Addr) → Sg → Prop) → Prop
  | [], cs, σ, k => k cs σ
  | (n, kind) :: r, cs, σ, k => if kind == .cell then ∀ c, σ.at_ c = none → CellK r ((n, c) :: cs) (σ.put c (.cel none)) k else CellK r cs σ k
def BindK (env : Env) : List (Str × Value) → Sg → (Sg → Prop) → Prop
  | [], σ, k => k σ
  | (n, v) :: r, σ, k => match env.kindOf n with
    | some .local => BindK env r (σ.setL n v) k
    | some .cell => match env.cells.lookup n with
      | some c => (∃ u, σ.at_ c = some (.cel u)) ∧ BindK env r (σ.put c (.cel (some v))) k
      | none => False
    | _ => False

theorem cellK_any {s : Shared} {E : Value → Shared → Prop} (f : Str × NameKind → List (Str × Addr) → Sem (ForInStep (List (Str × Addr))))
    (hf : ∀ name kind cells, f (name, kind) cells = if kind == .cell then (do let a ← alloc { cls := .type "cell", data := .cell none }; pure (.yield ((name, a) :: cells))) else pure (.yield cells)) :
    ∀ (names : List (Str × NameKind)) (cs : List (Str × Addr)) (σ : Sg) (s : Shared) (k : List (Str × Addr) → Sg → Prop) (Q : List (Str × Addr) → Shared → Prop), St b F L σ s → CellK names cs σ k →
      (∀ cs' σ' s', St b F L σ' s' → k cs' σ' → Q cs' s') → wpAny (model P b.w) A (forIn names cs f) Q E s
  | [], cs, σ, s, k, Q, x, h, hQ => by rw [List.forIn_nil]; exact wpAny_pure (hQ _ _ _ x h)
  | (name, kind) :: r, cs, σ, s, k, Q, x, h, hQ => by
    rw [List.forIn_cons, hf]
    unfold CellK at h
    split at h
    · rename_i hk
      rw [if_pos hk]
      have z := x.alloc (o := { cls := .type "cell", data := .cell none }) (c := .cel none) ⟨_, Heap.get?_push_size _ rfl, rfl⟩
      exact wpAny_bind (wpAny_bind (wpAny_alloc (wpAny_pure (cellK_any (s := s) f hf r _ _ _ k Q z.2 (h _ z.1) hQ))))
    · rename_i hk
      rw [if_neg hk]
      exact wpAny_bind (wpAny_pure (cellK_any (s := s) f hf r _ _ _ k Q x h hQ))

theorem bindK_any {E : Value → Shared → Prop} (f : Str × Value → PUnit → Sem (ForInStep PUnit)) (hf : ∀ n v u, f (n, v) u = (do storeName env n v; pure (.yield ⟨⟩))) (hk : env.scope.kind = .function) (hL : env.locals = L) :
    ∀ (binds : List (Str × Value)) (σ : Sg) (s : Shared) (k : Sg → Prop) (Q : PUnit → Shared → Prop), St b F L σ s → BindK env binds σ k →
      (∀ σ' s', St b F L σ' s' → k σ' → Q ⟨⟩ s') → wpAny (model P b.w) A (forIn binds ⟨⟩ f) Q E s
  | [], σ, s, k, Q, x, h, hQ => by rw [List.forIn_nil]; exact wpAny_pure (hQ _ _ x h)
  | (n, v) :: r, σ, s, k, Q, x, h, hQ => by
    rw [List.forIn_cons, hf]
    unfold BindK at h
    split at h
    · rename_i hl
      refine wpAny_bind (wpAny_bind (wpAny_mono (w_storeL (Q := fun _ σ' => σ' = σ.setL n v) hL rfl hk hl s E x) (fun _ s' ⟨σ', y, q⟩ => ?_) fun _ _ e => e))
      subst q
      exact wpAny_pure (bindK_any f hf hk hL r _ _ k Q y h hQ)
    · rename_i hl
      split at h
      · rename_i c hc
        obtain ⟨⟨u, hu⟩, h⟩ := h
        refine wpAny_bind (wpAny_bind (wpAny_mono (w_storeC (Q := fun _ σ' => σ' = σ.put c (.cel (some v))) hc hu rfl hk hl s E x) (fun _ s' ⟨σ', y, q⟩ => ?_) fun _ _ e => e))
        subst q
        exact wpAny_pure (bindK_any f hf hk hL r _ _ k Q y h hQ)
      · exact h.elim
    · exact h.elim

theorem newEnv_any {s : Shared} {E : Value → Shared → Prop} {scope : Scope} {globals : Addr} {closure : List (Str × Addr)} {binds : List (Str × Value)} {qual : Str} {func : Option Addr} {code : Value} {around : Option Env} {builtins : Addr}
    {Q : Env → Shared → Prop} (x : St b F L σ s) (hk : scope.kind = .function)
    (h : ∀ L', CellK scope.names closure { σ with m := fun _ => none } fun cs σ₁ => BindK (newEnv scope L' globals cs qual func code around builtins) binds σ₁ fun σ₂ =>
      ∀ s', St b ((L, .ns σ.m) :: F) L' σ₂ s' → Q (newEnv scope L' globals cs qual func code around builtins) s') :
    wpAny (model P b.w) A (newFunctionEnv scope globals closure binds qual func code around builtins) Q E s := by
  have key : ∀ (T : Value) (fin : List (Str × Addr) → Sem Env) (_ : ∀ cs, fin cs = (do
        for (name, v) in binds do storeName (newEnv scope s.heap.objs.size globals cs qual func code around builtins) name v
        return newEnv scope s.heap.objs.size globals cs qual func code around builtins)),
      wpAny (model P b.w) A (alloc { cls := T, data := .dict #[] } >>= fun locals => (do
        let mut cells := closure
        for (name, kind) in scope.names do
          if kind == .cell then cells := (name, ← alloc { cls := .type "cell", data := .cell none }) :: cells
        fin cells)) Q E s := by
    intro T fin hfin
    refine wpAny_bind (wpAny_alloc ?_)
    have y := x.enter (T := T)
    refine wpAny_bind (cellK_any (s := s) _ (fun name kind cells => by cases hkc : kind == NameKind.cell <;> simp [hkc]) _ _ _ _ _ _ y (h s.heap.objs.size) fun cs σ₁ s₁ x₁ h₁ => ?_)
    rw [hfin]
    refine wpAny_bind (bindK_any _ (fun _ _ _ => rfl) (by cases around <;> exact hk) (by cases around <;> rfl) _ _ _ _ _ x₁ h₁ fun σ₂ s₂ x₂ h₂ => wpAny_pure (h₂ s₂ x₂))
  cases around with
  | none => exact key _ _ fun _ => rfl
  | some outer => exact key _ _ fun _ => rfl
end
end PartA3

section PartA4
open PySem PySem.W PyProof.Rows PySem.Calls
set_option maxRecDepth 100000

abbrev fnEnv (fd : FuncData) (L' : Addr) (cs : List (Str × Addr)) (f : Addr) : Env := newEnv fd.scope L' fd.globals cs (fd.qualname ++ ".<locals>.") (some f) fd.code none fd.builtins
def retOf : Flow → Value
  | .ret v => v
  | _ => .none

section
variable {b : Base} {A : Around} {F : Fs} {L : Addr} {α β γ : Type} {σ : Sg} {env : Env}

/-- a code run, ending with a value -/
def WC (b : Base) (A : Around) (F : Fs) (L : Addr) (c : Code) (σ : Sg) (Q : Value → Sg → Prop) : Prop :=
  ∀ s R, St b F L σ s → (∀ v s' σ', St b F L σ' s' → Q v σ' → R (.ok (.ret v)) s') → codeAny (model P b.w) A c R s
theorem WC.call {f : Value} {pos : List Value} {kw : List (Str × Value)} {Q : Value → Sg → Prop} (h : WC b A F L (.call f ⟨pos, kw⟩) σ Q) : W b A F L (PySem.call f pos kw) σ Q :=
  fun s E x => wpAny_call (h s _ x fun v s' σ' y q => ⟨σ', y, q⟩)
theorem WC.mono {c : Code} {Q Q' : Value → Sg → Prop} (h : WC b A F L c σ Q) (k : ∀ v σ', Q v σ' → Q' v σ') : WC b A F L c σ Q' := fun s R x hR => h s R x fun v s' σ' y q => hR v s' σ' y (k v σ' q)

theorem wc_fn {f : Addr} {args : Args} {oc : Value} {od : Option Addr} {osl : Array (Option Value)} {fd : FuncData} {body : List Stmt} {Q : Value → Sg → Prop}
    (G : Glb b) (ho : (Kb b).lookup f = some ⟨oc, od, .func fd, osl⟩) (hcd : codeIn (Kb b) fd.code fd.qualname = true) (hbody : fd.body = .stmts body) (hd : A.depth < recursionLimit)
    (h : W b A.in1 F L (bindArgs fd args) σ fun binds σ₀ => ∀ L', CellK fd.scope.names fd.closure { σ₀ with m := fun _ => none } fun cs σ₁ => BindK (fnEnv fd L' cs f) binds σ₁ fun σ₂ =>
      W b (A.deeper (fnEnv fd L' cs f)) ((L, .ns σ₀.m) :: F) L' (execs body (fnEnv fd L' cs f)) σ₂ fun fl σ' => Q (retOf fl) { σ' with m := σ₀.m })
    (hco : fd.scope.isCoroutine = false := by with_unfolding_all rfl) (hgen : fd.scope.isGenerator = false := by with_unfolding_all rfl) (hk : fd.scope.kind = .function := by with_unfolding_all rfl) : WC b A F L (.call (.ref f) args) σ Q := by
  intro s R x hR
  refine codeAny_call_function hd (x.keep _ _ (G.k _ _ ho)) rfl hco hgen hbody ((codeRec_of G.k hcd).keeps x.keep) ?_
  refine wpAny_mono (h s _ x) (fun binds s₀ ⟨σ₀, x₀, h₀⟩ => ?_) fun _ _ e => e
  refine newEnv_any x₀ hk fun L' => ?_
  have mono : ∀ (names : List (Str × NameKind)) (cs : List (Str × Addr)) (τ : Sg) (k k' : List (Str × Addr) → Sg → Prop), (∀ c t, k c t → k' c t) → CellK names cs τ k → CellK names cs τ k' := by
    intro names
    induction names with
    | nil => intro cs τ k k' hk h; exact hk _ _ h
    | cons p r ih =>
      intro cs τ k k' hk h
      obtain ⟨n, kd⟩ := p
      unfold CellK at h ⊢
      split
      · rename_i q; rw [if_pos q] at h; exact fun c hc => ih _ _ k k' hk (h c hc)
      · rename_i q; rw [if_neg q] at h; exact ih _ _ k k' hk h
  have monoB : ∀ (binds : List (Str × Value)) (e : Env) (τ : Sg) (k k' : Sg → Prop), (∀ t, k t → k' t) → BindK e binds τ k → BindK e binds τ k' := by
    intro binds
    induction binds with
    | nil => intro e τ k k' hk h; exact hk _ h
    | cons p r ih =>
      intro e τ k k' hk h
      obtain ⟨n, v⟩ := p
      unfold BindK at h ⊢
      generalize e.kindOf n = kd at h ⊢
      cases kd with
      | none => exact h.elim
      | some kd =>
        cases kd <;> first
          | exact ih _ _ k k' hk h
          | exact h.elim
          | (generalize e.cells.lookup n = cl at h ⊢
             cases cl with
             | none => exact h.elim
             | some c => exact ⟨h.1, ih _ _ k k' hk h.2⟩)
  refine mono _ _ _ _ _ (fun cs τ hτ => monoB _ _ _ _ _ (fun τ₂ h₂ => ?_) hτ) (h₀ L')
  intro s₂ x₂
  refine ⟨(G.lim.keeps x₂.keep), codeAny_func (wpAny_mono (h₂ s₂ _ x₂) (fun fl s' ⟨σ', y, q⟩ => ?_) fun _ _ e => e)⟩
  exact hR _ _ _ (y.leave) q

/-- what must be known of the surroundings: room for n frames and u units -/
structure Room (A : Around) (n u : Nat) : Prop where
  handled : A.handled = none
  depth : A.depth + n < recursionLimit
  units : A.units + u < cLine

theorem Room.in1 {n u : Nat} (r : Room A n (u + 1)) : Room A.in1 n u := ⟨r.handled, r.depth, by have := r.units; simp only [Around.in1_units]; omega⟩
theorem Room.deeper {n u : Nat} {e : Env} (r : Room A (n + 1) (u + 3)) : Room (A.deeper e) n u := ⟨r.handled, by have := r.depth; show A.depth + 1 + n < _; omega, by have := r.units; show A.units + 3 + u < _; omega⟩
theorem Room.le {n u n' u' : Nat} (r : Room A n u) (h1 : n' ≤ n) (h2 : u' ≤ u) : Room A n' u' := ⟨r.handled, by have := r.depth; omega, by have := r.units; omega⟩

end
end PartA4

section PartA5
open PySem PySem.W PyProof.Rows PySem.Calls Builtin Builtin.ObjectAttr
set_option maxRecDepth 100000

/-- an assoc list's put -/
def putA (x : Str) (v : Value) : List (Str × Value) → List (Str × Value)
  | [] => [(x, v)]
  | p :: r => if p.1 = x then (p.1, v) :: r else p :: putA x v r

theorem Ents.len : ∀ {l : List DictEntry} {es : List (Str × Value)}, Ents l es → l.length = es.length
  | [], [], _ => rfl
  | _ :: _, _ :: _, h => congrArg Nat.succ (Ents.len h.2.2)
  | [], _ :: _, h => h.elim
  | _ :: _, [], h => h.elim
theorem isStr_key {k : Value} {x name : Str} {t : Tok} (h : k = .str x t) : k.isStr name = (x == name) := by subst h; rfl
theorem Ents.noRef : ∀ {l : List DictEntry} {es : List (Str × Value)}, Ents l es → l.any (·.refKey) = false
  | [], [], _ => rfl
  | e :: _, _ :: _, ⟨⟨t, hk⟩, _, h⟩ => by
    rw [List.any_cons, Ents.noRef h, Bool.or_false]
    unfold DictEntry.refKey; rw [hk]
  | [], _ :: _, h => h.elim
  | _ :: _, [], h => h.elim
theorem Ents.get {name : Str} : ∀ {l : List DictEntry} {es : List (Str × Value)}, Ents l es → (l.find? (·.key.isStr name)).map (·.val) = es.lookup name
  | [], [], _ => rfl
  | e :: l, (x, v) :: es, ⟨⟨t, hk⟩, hv, h⟩ => by
    rw [List.find?_cons, isStr_key hk, List.lookup_cons]
    cases q : x == name with
    | true => rw [show (name == x) = true by rw [beq_iff_eq] at q ⊢; exact q.symm]; simpa using hv
    | false =>
      rw [show (name == x) = false by rw [beq_eq_false_iff_ne] at q ⊢; exact fun e => q e.symm]
      exact Ents.get h
  | [], _ :: _, h => h.elim
  | _ :: _, [], h => h.elim
theorem Ents.look {name : Str} {l : List DictEntry} {es : List (Str × Value)} {n : Nat} (h : Ents l es) : lookIn name (dictOf l n) = some (es.lookup name) := by
  rw [lookIn_dict]; unfold getL
  have g := h.get (name := name)
  cases q : l.find? (·.key.isStr name) with
  | some e => rw [q] at g; rw [← g]; rfl
  | none => rw [q] at g; dsimp only; rw [if_neg (by rw [h.noRef]; decide), ← g]; rfl
theorem Ents.put {name : Str} {hsh : Int} {t : Tok} {v : Value} : ∀ {l : List DictEntry} {es : List (Str × Value)}, Ents l es → Ents (putL name hsh (.str name t) v l) (putA name v es)
  | [], [], _ => ⟨⟨t, rfl⟩, rfl, trivial⟩
  | e :: l, (x, u) :: es, ⟨⟨t', hk⟩, hv, h⟩ => by
    unfold putL putA
    rw [isStr_key hk]
    by_cases q : x = name
    · rw [if_pos (by rw [beq_iff_eq]; exact q), if_pos q]; exact ⟨⟨t', hk⟩, rfl, h⟩
    · rw [if_neg (by rw [beq_iff_eq]; exact q), if_neg q]; exact ⟨⟨t', hk⟩, hv, h.put⟩
  | [], _ :: _, h => h.elim
  | _ :: _, [], h => h.elim
theorem putA_len (x : Str) (v : Value) : ∀ es : List (Str × Value), (putA x v es).length ≤ es.length + 1
  | [] => Nat.le_refl _
  | p :: r => by unfold putA; split <;> simp only [List.length_cons] <;> have := putA_len x v r <;> omega

/-- an object of a class of the text -/
def Inst (σ : Sg) (x C d : Addr) (es : List (Str × Value)) : Prop := σ.at_ x = some (.obj (instObj C d)) ∧ σ.at_ d = some (.dct es)

section
variable {b : Base} {A : Around} {F : Fs} {L : Addr} {σ : Sg} {env : Env} {x C d : Addr} {es : List (Str × Value)}

theorem St.inst {s : Shared} (y : St b F L σ s) (I : Inst σ x C d es) : ∃ od, InstAt s.heap x (instObj C d) C (some od) ∧ (∃ l n, od = dictOf l n ∧ Ents l es) := by
  obtain ⟨l, n, hd, he⟩ := y.cl _ _ I.2
  exact ⟨_, ⟨y.cl _ _ I.1, rfl, rfl, hd⟩, l, n, rfl, he⟩

/-- what a class of the text is like -/
structure Cls (b : Base) (C : Addr) : Prop where
  get : plainGet (Kb b) C "x" = true
  dict : hasDictIn (Kb b) C = true
  set : findIn (Kb b) (.ref C) "__setattr__" = some (some (.builtin "object.__setattr__"))
  over : plainOver (Kb b) C = true
  make : makesIn (Kb b) C = true
  cls : findIn (Kb b) (.ref C) "__class__" = some (some (.builtin "object.__class__"))
  obj : mroIn (Kb b) C (.type "object") = some true
  self : isIn (Kb b) (.ref C) C = true

theorem w_getAttr {name : Str} {v : Value} {e : Bool} {Q : Value → Sg → Prop} (G : Glb b) (K : Cls b C) (I : Inst σ x C d es) (ha : findIn (Kb b) (.ref C) name = some none) (hv : es.lookup name = some v) (hh : handedIn v = true) (h : Q v σ) :
    W b A F L (getAttr (.ref x) name e) σ Q := fun s E y => by
  obtain ⟨od, I', l, n, rfl, he⟩ := y.inst I
  exact get_value (G.k.keeps y.keep) I' (plainGet_of K.get).1 (findObj_own K.dict ha rfl (he.look.trans (by rw [hv]))) hh ⟨σ, y.toks _, h⟩

theorem w_getMethod {name : Str} {f : Addr} {pl : Sem Bool} {Q : Value × List Value → Sg → Prop} (G : Glb b) (K : Cls b C) (I : Inst σ x C d es) (hf : findIn (Kb b) (.ref C) name = some (some (.ref f))) (ht : typeIn (Kb b) (.ref f) = some (.type "function"))
    (hv : es.lookup name = none) (h : Q (.ref f, [.ref x]) σ) : W b A F L (getMethod (.ref x) name pl) σ Q := fun s E y => by
  obtain ⟨od, I', l, n, rfl, he⟩ := y.inst I
  exact method_fn (G.k.keeps y.keep) I' (plainGet_of K.get).1 (plainGet_of K.get).2 hf ht (by show (lookIn name (dictOf l n)).map _ = _; rw [he.look, hv]; rfl) ⟨σ, y, h⟩

theorem w_setAttr {name : Str} {v : Value} {Q : Unit → Sg → Prop} (G : Glb b) (K : Cls b C) (I : Inst σ x C d es) (ht : findIn (Kb b) (.ref C) name = some none) (hz : es.length < 1000) (h : Q () (σ.put d (.dct (putA name v es)))) :
    W b A F L (setAttr (.ref x) name v) σ Q := fun s E y => by
  obtain ⟨od, I', l, n, rfl, he⟩ := y.inst I
  have X := G.k.keeps y.keep
  refine set_plain X I' K.set (osa_open (s := { s with toks := s.toks + 1 }) (r := none) X I' K.over (by unfold takerIn; rw [ht]; rfl) fun bb => ?_)
  obtain ⟨cd, hc, hd'⟩ := any_some K.dict
  have D : s.heap.get? d = some (dictOf l n) := I'.dict
  have e : Obj.putName name (PyData.keyHash b.w.params name) (.str name (s.toks + 1)) v (dictOf l n) = dictOf (putL name (PyData.keyHash b.w.params name) (.str name (s.toks + 1)) v l) (putN name l n) := putName_dict ..
  have he' : Ents (putL name (PyData.keyHash b.w.params name) (.str name (s.toks + 1)) v l) (putA name v es) := he.put
  have D' : (s.heap.update d (Obj.putName name (PyData.keyHash b.w.params name) (.str name (s.toks + 1)) v)).get? d = some (dictOf (putL name (PyData.keyHash b.w.params name) (.str name (s.toks + 1)) v l) (putN name l n)) := by
    rw [← e]; exact Heap.get?_update_self _ D (by rw [e]; rfl)
  refine wpAny_bind (wpAny_pure (wpAny_bind (wpAny_bind (wpAny_loadPart I'.at_ (wpAny_bind (looks_clsIn X hc _ _ _ _ (fun _ _ e => e) ?_))))))
  rw [hd']
  refine wpAny_pure (a := some d) (wpAny_bind (wpAny_pure (wpAny_bind ?_)))
  unfold nsSet
  refine wpAny_bind (wpAny_bind (wpAny_askSetting (wpAny_pure (wpAny_bind (wpAny_mkText (wpAny_bind (wpAny_loadPart D ?_)))))))
  have c : (!(l.toArray).any (·.key.isStr name) && (l.toArray).any (·.refKey)) = false := by
    rw [show (l.toArray).any (·.refKey) = false by simpa using he.noRef, Bool.and_false]
  dsimp only
  rw [aRefKeyMayBeTheName_at, c]
  refine wpAny_updatePart D ?_
  refine wpAny_bind (wpAny_lookBehind D' (pastItsLine_dict (by rw [List.size_toArray, sizeLine_eq, he'.len]; have := putA_len name v es; omega)) ?_)
  refine wpAny_pure ⟨_, (y.change (c := .dct (putA name v es)) I.2 (Heap.SameBut.update ..) ⟨_, _, D', he'⟩).toks _, h⟩

theorem room_make {n u : Nat} (r : Room A (n + 1) (u + 1)) (C : Addr) (rest : List Value) (kw : List (Str × Value)) : Room (A.under (.builtin "type.__call__" ⟨.ref C :: rest, kw⟩)) n u := by
  refine ⟨r.handled, ?_, ?_⟩
  · rw [depth_under_kw]; have := r.depth; omega
  · have := r.units; show A.units + 1 + u < _; omega

theorem wc_new {fI : Addr} {rest : List Value} {kw : List (Str × Value)} {Q : Value → Sg → Prop} (G : Glb b) (K : Cls b C) (hi : findIn (Kb b) (.ref C) "__init__" = some (some (.ref fI))) (hf : typeIn (Kb b) (.ref fI) = some (.type "function"))
    (h : ∀ x d, σ.at_ x = none → σ.at_ d = none → x ≠ d → WC b (A.under (.builtin "type.__call__" ⟨.ref C :: rest, kw⟩)) F L (.call (.ref fI) ⟨.ref x :: rest, kw⟩) ((σ.put d (.dct [])).put x (.obj (instObj C d))) fun v σ' => v = .none ∧ Q (.ref x) σ') :
    WC b A F L (.call (.ref C) ⟨rest, kw⟩) σ Q := fun s R y hR => by
  obtain ⟨hh, g, dd, t, os⟩ := s
  have X := G.k.keeps y.keep
  have z1 := y.alloc (o := emptyDict) (c := .dct []) ⟨[], 0, Heap.get?_push_size _ rfl, trivial⟩
  have z2 := z1.2.alloc (o := instObj C hh.objs.size) (c := .obj (instObj C hh.objs.size)) (Heap.get?_push_size _ rfl)
  have sz : (hh.push emptyDict).objs.size = hh.objs.size + 1 := Heap.size_push ..
  dsimp only at z1 z2
  rw [sz] at z2
  have ne : hh.objs.size + 1 ≠ hh.objs.size := Nat.succ_ne_self _
  refine make_core (makes_of X K.make) (looks_findIn X hi) (fun self => bind_fn X self hf) (.inl rfl) ?_
  refine h _ _ (by have := z2.1; simp only [Sg.put, if_neg ne] at this; exact this) z1.1 ne _ _ z2.2 fun v s' σ' y' q => ?_
  exact ⟨q.1, hR _ _ _ y' q.2⟩

theorem w_isin {Q : Value → Sg → Prop} (G : Glb b) (K : Cls b C) (I : Inst σ x C d es) (h : Q (.bool true) σ) : W b A F L (call (.builtin "isinstance") [.ref x, .ref C]) σ Q := fun s E y => by
  obtain ⟨od, I', l, n, rfl, he⟩ := y.inst I
  exact isi_call (G.k.keeps y.keep) (fun M => I'.type) K.self (by intro q; cases q) ⟨σ, y, h⟩
theorem w_isnotin {D : Addr} {Q : Value → Sg → Prop} (G : Glb b) (K : Cls b C) (I : Inst σ x C d es) (e : kin_not (Kb b) C D = true) (hn : specialIn (Kb b) (.builtin "object.__class__") "__get__" = some (some (.builtin "getset_descriptor.__get__")))
    (htk : takesIn (Kb b) (.builtin "object.__class__") = some true) (h : Q (.bool false) σ) : W b A F L (call (.builtin "isinstance") [.ref x, .ref D]) σ Q := fun s E y => by
  obtain ⟨od, I', l, n, rfl, he⟩ := y.inst I
  exact kin_callC (G.k.keeps y.keep) I' e K.get K.dict K.cls hn htk K.obj ⟨σ, y.toks _, h⟩

theorem same_any {x y : Addr} {C d : Addr} {s : Shared} {E : Value → Shared → Prop} {Q : Bool → Shared → Prop} {oy : Obj} (ex : s.heap.get? x = some (instObj C d)) (ey : s.heap.get? y = some oy) (h : Q (decide (x = y)) s) :
    wpAny (model P b.w) A (isSame (.ref x) (.ref y)) Q E s := by
  by_cases e : x = y
  · subst e
    exact wpAny_isSame_ref_self (by simpa using h)
  · have q : isSame (.ref x) (.ref y) = (if x == y then pure true else do
      let ox ← load x; let oy ← load y
      match ox.cls, oy.cls, ox.data, oy.data with
      | .type "tuple", .type "tuple", .seq xs _, .seq ys _ => if xs.isEmpty && ys.isEmpty then isSame.theEmptyTuple else sameTuple x y xs ys
      | _, _, _, _ => return false) := rfl
    rw [q, if_neg (by simpa using e)]
    refine wpAny_bind (wpAny_load ex (wpAny_bind (wpAny_load ey ?_)))
    exact wpAny_pure (by simpa [e] using h)
theorem w_is {x y C d : Addr} {c : Cl} {Q : Value → Sg → Prop} (hx : σ.at_ x = some (.obj (instObj C d))) (hy : σ.at_ y = some c) (h : Q (.bool (decide (x = y))) σ) : W b A F L (compareOp .Is (.ref x) (.ref y)) σ Q := fun s E z => by
  obtain ⟨oy, ey⟩ := (z.cl _ _ hy).there
  show wpAny _ _ (isSame (.ref x) (.ref y) >>= fun r => pure (Value.bool r)) _ _ _
  exact wpAny_bind (same_any (z.cl _ _ hx) ey (wpAny_pure ⟨σ, z, h⟩))
theorem w_isNot {x y C d : Addr} {c : Cl} {Q : Value → Sg → Prop} (hx : σ.at_ x = some (.obj (instObj C d))) (hy : σ.at_ y = some c) (h : Q (.bool (!decide (x = y))) σ) : W b A F L (compareOp .IsNot (.ref x) (.ref y)) σ Q := fun s E z => by
  obtain ⟨oy, ey⟩ := (z.cl _ _ hy).there
  show wpAny _ _ (isSame (.ref x) (.ref y) >>= fun r => pure (Value.bool (!r))) _ _ _
  exact wpAny_bind (same_any (z.cl _ _ hx) ey (wpAny_pure ⟨σ, z, h⟩))
end
end PartA5

section PartA6
open PySem PySem.W PyProof.Rows PySem.Calls
set_option maxRecDepth 100000

section
variable {b : Base} {A : Around} {F : Fs} {L : Addr} {α β γ : Type} {σ : Sg} {env : Env}

theorem St.isL {s : Shared} {l : Addr} {xs : List Value} (y : St b F L σ s) (h : σ.at_ l = some (.lst xs)) : ∃ n, IsL s.heap l xs.toArray n := y.cl _ _ h
theorem St.isList {s : Shared} {l : Addr} {xs : List Value} (y : St b F L σ s) (h : σ.at_ l = some (.lst xs)) : s.heap.IsList l xs.toArray := let ⟨_, g⟩ := y.isL h; IsL.isList g

theorem St.grow {s : Shared} {h' : Heap} (x : St b F L σ s) (hk : ∀ y o, s.heap.get? y = some o → h'.get? y = some o) : St b F L σ { s with heap := h' } := by
  refine ⟨?_, fun p hp => (x.fr p hp).same (hk _), x.nd, fun y o e => hk y o (x.keep y o e), fun a c e => (x.cl a c e).same (hk a), x.offL, x.offF, x.offC, x.gens, x.os⟩
  obtain ⟨o, es, ep, g, r⟩ := x.ns; exact ⟨o, es, ep, hk _ _ g, r⟩
theorem Heap.get?_size (h : Heap) : h.get? h.objs.size = none := by
  cases e : h.get? h.objs.size with
  | none => rfl
  | some o => exact absurd (Heap.lt_size e) (Nat.lt_irrefl _)
theorem St.allocAt {s : Shared} {h' : Heap} {n : Addr} {c : Cl} (x : St b F L σ s) (hk : ∀ y o, s.heap.get? y = some o → h'.get? y = some o) (hn : s.heap.get? n = none) (hc : c.At h' n) :
    σ.at_ n = none ∧ St b F L (σ.put n c) { s with heap := h' } := by
  have old : ∀ y o', s.heap.get? y = some o' → y ≠ n := fun y o' e q => by rw [q, hn] at e; cases e
  have nn : σ.at_ n = none := by
    cases q : σ.at_ n with
    | none => rfl
    | some c' => obtain ⟨o', e⟩ := (x.cl _ _ q).there; exact absurd rfl (old _ _ e)
  have hL : L ≠ n := by obtain ⟨o', _, _, e, _⟩ := x.ns; exact old _ _ e
  have hF : ∀ p ∈ F, p.1 ≠ n := fun p hp => by obtain ⟨o', e⟩ := (x.fr p hp).there; exact old _ _ e
  have hb : b.h.get? n = none := by
    cases q : b.h.get? n with
    | none => rfl
    | some o' => exact absurd rfl (old _ _ (x.keep _ _ q))
  have y := x.grow hk
  refine ⟨nn, y.ns, y.fr, y.nd, y.keep, fun a c' e => ?_, ⟨y.offL.1, ?_, y.offL.2.2⟩, fun p hp => ⟨(y.offF p hp).1, ?_⟩, fun a c' e => ?_, y.gens, y.os⟩
  · simp only [Sg.put] at e
    split at e
    · rename_i h; subst h; cases e; exact hc
    · exact y.cl a c' e
  · simp only [Sg.put, if_neg hL]; exact y.offL.2.1
  · simp only [Sg.put, if_neg (hF p hp)]; exact (y.offF p hp).2
  · simp only [Sg.put] at e
    split at e
    · rename_i h; subst h; exact hb
    · exact y.offC a c' e
/-- no generator among these -/
def NoGen (Fi : Fs) : Prop := ∀ p ∈ Fi, p.2.gen? = none
theorem NoGen.one {a : Addr} {k : Kp} (h : k.gen? = none := by rfl) : NoGen [(a, k)] := fun p hp => by rw [List.mem_singleton.mp hp]; exact h
theorem St.dropFs {s : Shared} : ∀ {Fi : Fs}, NoGen Fi → St b (Fi ++ F) L σ s → St b F L σ s
  | [], _, x => x
  | p :: Fi, h, x => St.dropFs (Fi := Fi) (fun q hq => h q (.tail _ hq)) (St.dropF x (h p (.head _)))
/-- the entries' order is nothing -/
theorem St.perm {s : Shared} {F' : Fs} (x : St b F L σ s) (p : F.Perm F') : St b F' L σ s :=
  ⟨x.ns, fun q hq => x.fr q (p.mem_iff.mpr hq), (p.map _).nodup_iff.mp x.nd, x.keep, x.cl, ⟨x.offL.1, x.offL.2.1, fun q hq => x.offL.2.2 q (p.mem_iff.mpr hq)⟩, fun q hq => x.offF q (p.mem_iff.mpr hq), x.offC, x.gens.perm p, x.os⟩
/-- a known object put out of sight -/
def Sg.del (σ : Sg) (a : Addr) : Sg := { σ with at_ := fun b => if b = a then none else σ.at_ b }
theorem Sg.del_put {a : Addr} {c : Cl} (h : σ.at_ a = none) : (σ.put a c).del a = σ := by
  unfold Sg.del Sg.put
  cases σ with | mk m at_ g => ?_
  simp only [Sg.mk.injEq, true_and, and_true]
  funext y
  by_cases e : y = a
  · subst e; simpa using h.symm
  · simp [e]
theorem St.hide {s : Shared} {a : Addr} {c : Cl} (x : St b F L σ s) (h : σ.at_ a = some c) : St b ((a, .cl c) :: F) L (σ.del a) s := by
  refine ⟨x.ns, fun p hp => ?_, ?_, x.keep, fun y c' e => ?_, ⟨x.offL.1, ?_, fun p hp => ?_⟩, fun p hp => ?_, fun y c' e => ?_, x.gens.of (gensOf_cons rfl), x.os⟩
  · rcases List.mem_cons.mp hp with rfl | hp
    · exact x.cl _ _ h
    · exact x.fr p hp
  · rw [List.map_cons, List.nodup_cons]
    refine ⟨fun q => ?_, x.nd⟩
    obtain ⟨p, hp, e⟩ := List.mem_map.mp q
    have := (x.offF p hp).2
    rw [e] at this; rw [h] at this; cases this
  · simp only [Sg.del] at e; split at e
    · cases e
    · exact x.cl y c' e
  · simp only [Sg.del]; split
    · rfl
    · exact x.offL.2.1
  · rcases List.mem_cons.mp hp with rfl | hp
    · exact fun e => by have := x.offL.2.1; rw [← e, h] at this; cases this
    · exact x.offL.2.2 p hp
  · rcases List.mem_cons.mp hp with rfl | hp
    · exact ⟨x.offC _ _ h, by simp [Sg.del]⟩
    · refine ⟨(x.offF p hp).1, ?_⟩
      simp only [Sg.del]; split
      · rfl
      · exact (x.offF p hp).2
  · simp only [Sg.del] at e; split at e
    · cases e
    · exact x.offC y c' e
theorem St.show {s : Shared} {a : Addr} {c : Cl} (x : St b ((a, .cl c) :: F) L σ s) : σ.at_ a = none ∧ St b F L (σ.put a c) s := by
  have ha := x.offF _ (.head _)
  refine ⟨ha.2, x.ns, fun p hp => x.fr p (.tail _ hp), (List.nodup_cons.mp x.nd).2, x.keep, fun y c' e => ?_, ⟨x.offL.1, ?_, fun p hp => x.offL.2.2 p (.tail _ hp)⟩, fun p hp => ⟨(x.offF p (.tail _ hp)).1, ?_⟩, fun y c' e => ?_, x.gens.of (gensOf_cons rfl).symm, x.os⟩
  · simp only [Sg.put] at e; split at e
    · rename_i q; subst q; cases e; exact x.fr _ (.head _)
    · exact x.cl y c' e
  · have := x.offL.2.2 _ (.head _)
    simp only [Sg.put, if_neg (Ne.symm this)]; exact x.offL.2.1
  · have : p.1 ≠ a := fun e => (List.nodup_cons.mp x.nd).1 (List.mem_map.mpr ⟨p, hp, e⟩)
    simp only [Sg.put, if_neg this]; exact (x.offF p (.tail _ hp)).2
  · simp only [Sg.put] at e; split at e
    · rename_i q; subst q; exact ha.1
    · exact x.offC y c' e
/-- the frame in sight and one out of sight change places -/
theorem St.swap {s : Shared} {m : NsMap} {L' : Addr} (x : St b ((L, .ns m) :: F) L' σ s) : St b ((L', .ns σ.m) :: F) L { σ with m := m } s := by
  refine ⟨x.fr _ (.head _), fun p hp => ?_, ?_, x.keep, x.cl, ⟨(x.offF _ (.head _)).1, (x.offF _ (.head _)).2, fun p hp => ?_⟩, fun p hp => ?_, x.offC, x.gens.of (by rw [gensOf_cons rfl, gensOf_cons rfl]), x.os⟩
  · rcases List.mem_cons.mp hp with rfl | hp
    · exact x.ns
    · exact x.fr p (.tail _ hp)
  · rw [List.map_cons, List.nodup_cons]
    exact ⟨fun h => by obtain ⟨p, hp, e⟩ := List.mem_map.mp h; exact x.offL.2.2 p (.tail _ hp) e, (List.nodup_cons.mp x.nd).2⟩
  · rcases List.mem_cons.mp hp with rfl | hp
    · exact Ne.symm (x.offL.2.2 _ (.head _))
    · exact fun e => (List.nodup_cons.mp x.nd).1 (List.mem_map.mpr ⟨p, hp, e⟩)
  · rcases List.mem_cons.mp hp with rfl | hp
    · exact ⟨x.offL.1, x.offL.2.1⟩
    · exact x.offF p (.tail _ hp)
/-- the first entry let go, whatever becomes of it -/
theorem St.endF {s : Shared} {h' : Heap} {a : Addr} {k : Kp} (x : St b ((a, k) :: F) L σ s) (hs : ∀ y o, y ≠ a → s.heap.get? y = some o → h'.get? y = some o) (hg : k.gen? = none := by rfl) : St b F L σ { s with heap := h' } := by
  have hL : a ≠ L := x.offL.2.2 _ (.head _)
  have hF : ∀ p ∈ F, p.1 ≠ a := fun p hp e => by have := (List.nodup_cons.mp x.nd).1; exact this (List.mem_map.mpr ⟨p, hp, e⟩)
  have hb : ∀ y o, b.h.get? y = some o → y ≠ a := fun y o e q => by have := (x.offF _ (.head _)).1; rw [← q] at this; rw [e] at this; cases this
  have hC : ∀ y c, σ.at_ y = some c → y ≠ a := fun y c e q => by have := (x.offF _ (.head _)).2; rw [← q] at this; rw [e] at this; cases this
  refine ⟨?_, fun p hp => (x.fr p (.tail _ hp)).same fun o g => hs _ _ (hF p hp) g, (List.nodup_cons.mp x.nd).2, fun y o e => hs y o (hb y o e) (x.keep y o e), fun y c e => (x.cl y c e).same fun o g => hs _ _ (hC y c e) g, ⟨x.offL.1, x.offL.2.1, fun p hp => x.offL.2.2 p (.tail _ hp)⟩, fun p hp => x.offF p (.tail _ hp), x.offC, x.gens.of (gensOf_cons hg).symm, x.os⟩
  obtain ⟨o, es, ep, g, r⟩ := x.ns; exact ⟨o, es, ep, hs _ _ (Ne.symm hL) g, r⟩

-- calls
theorem w_callN {id : Str} {p pos : Pos} {args : List Expr} {Q : Value → Sg → Prop} (h : W b A F L (eval (.Name id p) env) σ fun f σ₁ => W b A F L (callWith pos f [] (backTo pos (starEach args env)) []) σ₁ Q) :
    W b A F L (eval (.Call (.Name id p) args [] pos) env) σ Q := W.lift (fun _ _ _ h => wpAny_Call_Name_kw h) h
theorem w_callM {o : Expr} {name : Str} {apos pos : Pos} {args : List Expr} {pl : Sem Bool} {Q : Value → Sg → Prop}
    (h : W b A F L (eval o env) σ fun ov σ₁ => W b A F L (getMethod ov name pl) σ₁ fun fx σ₂ => W b A F L (callWith pos fx.1 fx.2 (backTo pos (starEach args env)) []) σ₂ Q)
    (he : eval (.Call (.Attribute o name apos) args [] pos) env = (do
      let ov ← eval o env
      standAt apos.atName
      let (f, first) ← holding [ov] (getMethod ov name pl)
      callWith pos f first (backTo pos (starEach args env)) (backToKw pos (keywordEach [] env))) := by with_unfolding_all rfl) : W b A F L (eval (.Call (.Attribute o name apos) args [] pos) env) σ Q :=
  fun s E x => methodCall_KW (wpAny_mono (h s E x) (fun _ s' ⟨_, y, q⟩ => wpAny_mono (q s' E y) (fun _ s' ⟨_, y, q⟩ => q s' E y) fun _ _ e => e) fun _ _ e => e) he
/-- the arguments, none starred, and the call -/
theorem w_cwK {pos : Pos} {f : Value} {first : List Value} {args : List Expr} {Q : Value → Sg → Prop} (G : Glb b) (hk : keepIn (Kb b) f = true)
    (h : W b A F L (spliced (backTo pos (starEach args env))) σ fun vs σ₁ => W b A F L (call f (first ++ vs)) σ₁ Q) (hp : (backTo pos (starEach args env)).any (·.1) = false := by with_unfolding_all rfl) :
    W b A F L (callWith pos f first (backTo pos (starEach args env)) []) σ Q := fun s E x => by
  refine callWith_of (P := fun h => (Kb b).In h) (by rw [hp]; rfl) (keeps_K hk) ?_
  have z : wpAny (model P b.w) A (spliced (backTo pos (starEach args env))) (fun vs s₁ => (Kb b).In s₁.heap ∧ wpAny (model P b.w) A (call f (first ++ vs)) (fun a s' => ∃ σ', St b F L σ' s' ∧ Q a σ') E s₁) E s :=
    wpAny_mono (h s E x) (fun vs s' ⟨_, y, q⟩ => ⟨G.k.keeps y.keep, q s' E y⟩) fun _ _ e => e
  generalize hq : backTo pos (starEach args env) = l at z hp
  cases l with
  | nil =>
    refine evalArgs_nil3 ?_
    have z' : wpAny (model P b.w) A (pure []) (fun vs s₁ => (Kb b).In s₁.heap ∧ wpAny (model P b.w) A (call f (first ++ vs)) (fun a s' => ∃ σ', St b F L σ' s' ∧ Q a σ') E s₁) E s := z
    exact ⟨G.k.keeps x.keep, fun Γ p hΓ => (z' Γ p hΓ).2 Γ p hΓ⟩
  | cons p r =>
    obtain ⟨st, t⟩ := p
    rw [List.any_cons, Bool.or_eq_false_iff] at hp
    have e : st = false := hp.1
    subst e
    exact evalArgs_plain z
theorem w_cwB {pos : Pos} {id : String} {first : List Value} {args : List Expr} {Q : Value → Sg → Prop}
    (h : W b A F L (spliced (backTo pos (starEach args env))) σ fun vs σ₁ => W b A F L (call (.builtin id) (first ++ vs)) σ₁ Q) (hp : (backTo pos (starEach args env)).any (·.1) = false := by with_unfolding_all rfl) :
    W b A F L (callWith pos (.builtin id) first (backTo pos (starEach args env)) []) σ Q := fun s E x => by
  refine callWith_builtin hp ?_
  have z : wpAny (model P b.w) A (spliced (backTo pos (starEach args env))) (fun vs s₁ => wpAny (model P b.w) A (call (.builtin id) (first ++ vs)) (fun a s' => ∃ σ', St b F L σ' s' ∧ Q a σ') E s₁) E s :=
    wpAny_mono (h s E x) (fun vs s' ⟨_, y, q⟩ => q s' E y) fun _ _ e => e
  generalize hq : backTo pos (starEach args env) = l at z hp
  cases l with
  | nil =>
    refine evalArgs_nil3 ?_
    have z' : wpAny (model P b.w) A (pure []) (fun vs s₁ => wpAny (model P b.w) A (call (.builtin id) (first ++ vs)) (fun a s' => ∃ σ', St b F L σ' s' ∧ Q a σ') E s₁) E s := z
    exact fun Γ p hΓ => z' Γ p hΓ Γ p hΓ
  | cons p r =>
    obtain ⟨st, t⟩ := p
    rw [List.any_cons, Bool.or_eq_false_iff] at hp
    have e : st = false := hp.1
    subst e
    exact evalArgs_plain z
theorem w_cwT {pos : Pos} {T : String} {first : List Value} {args : List Expr} {Q : Value → Sg → Prop}
    (h : W b A F L (spliced (backTo pos (starEach args env))) σ fun vs σ₁ => W b A F L (call (.type T) (first ++ vs)) σ₁ Q) (hp : (backTo pos (starEach args env)).any (·.1) = false := by with_unfolding_all rfl) :
    W b A F L (callWith pos (.type T) first (backTo pos (starEach args env)) []) σ Q := fun s E x => by
  refine PySem.callWith_type hp ?_
  have z : wpAny (model P b.w) A (spliced (backTo pos (starEach args env))) (fun vs s₁ => wpAny (model P b.w) A (call (.type T) (first ++ vs)) (fun a s' => ∃ σ', St b F L σ' s' ∧ Q a σ') E s₁) E s :=
    wpAny_mono (h s E x) (fun vs s' ⟨_, y, q⟩ => q s' E y) fun _ _ e => e
  generalize hq : backTo pos (starEach args env) = l at z hp
  cases l with
  | nil =>
    refine evalArgs_nil3 ?_
    have z' : wpAny (model P b.w) A (pure []) (fun vs s₁ => wpAny (model P b.w) A (call (.type T) (first ++ vs)) (fun a s' => ∃ σ', St b F L σ' s' ∧ Q a σ') E s₁) E s := z
    exact fun Γ p hΓ => z' Γ p hΓ Γ p hΓ
  | cons p r =>
    obtain ⟨st, t⟩ := p
    rw [List.any_cons, Bool.or_eq_false_iff] at hp
    have e : st = false := hp.1
    subst e
    exact evalArgs_plain z

-- lists
theorem w_gmAppend {l : Addr} {xs : List Value} {pl : Sem Bool} {Q : Value × List Value → Sg → Prop} (hl : σ.at_ l = some (.lst xs)) (h : Q (.builtin "list.append", [.ref l]) σ) : W b A F L (getMethod (.ref l) "append" pl) σ Q := fun s E y => by
  obtain ⟨n, g⟩ := y.isL hl
  exact getMethod_list_append g rfl rfl ⟨σ, y, h⟩
theorem w_gmPop {l : Addr} {xs : List Value} {pl : Sem Bool} {Q : Value × List Value → Sg → Prop} (hl : σ.at_ l = some (.lst xs)) (h : Q (.builtin "list.pop", [.ref l]) σ) : W b A F L (getMethod (.ref l) "pop" pl) σ Q := fun s E y => by
  obtain ⟨n, g⟩ := y.isL hl
  exact PyProof.Rows.Copied.getMethod_pop_at g rfl rfl ⟨σ, y, h⟩
theorem w_pop {l : Addr} {xs : List Value} {v : Value} {Q : Value → Sg → Prop} (hl : σ.at_ l = some (.lst (xs ++ [v]))) (hz : xs.length < sizeLine) (h : Q v (σ.put l (.lst xs))) : W b A F L (call (.builtin "list.pop") [.ref l]) σ Q := fun s E y => by
  obtain ⟨n, g⟩ := y.isL hl
  refine PyProof.Rows.Copied.pop_at (n := n) (its := (xs ++ [v]).toArray) (y := v) g (by simp) (hsz := by simp; omega) fun h' hs ho => ⟨_, y.change (c := .lst xs) hl hs ⟨n + 1, ?_⟩, h⟩
  rw [ho]; simp [lstObj]
theorem w_len {l : Addr} {xs : List Value} {Q : Value → Sg → Prop} (hl : σ.at_ l = some (.lst xs)) (hz : xs.length < 2 ^ 62) (h : ∀ t, Q (.int xs.length t) σ) : W b A F L (call (.builtin "len") [.ref l]) σ Q := fun s E y =>
  call_len_list (y.isList hl) (by simp; omega) ⟨σ, y.toks _, by have := h (s.toks + 1); simpa using this⟩
theorem w_truthyL {l : Addr} {xs : List Value} {Q : Bool → Sg → Prop} (hl : σ.at_ l = some (.lst xs)) (hz : xs.length < 2 ^ 62) (h : Q (!xs.isEmpty) σ) : W b A F L (truthy (.ref l)) σ Q := fun s E y =>
  wpAny_truthy_list (y.isList hl) (by simp; omega) ⟨σ, y.toks _, by simpa using h⟩
theorem w_addL {l r : Addr} {xs ys : List Value} {Q : Value → Sg → Prop} (hl : σ.at_ l = some (.lst xs)) (hr : σ.at_ r = some (.lst ys)) (hz : xs.length + ys.length ≤ sizeLine) (h : ∀ n, σ.at_ n = none → Q (.ref n) (σ.put n (.lst (xs ++ ys)))) :
    W b A F L (binaryOp .Add (.ref l) (.ref r)) σ Q := fun s E y => by
  obtain ⟨n, g⟩ := y.isL hl
  obtain ⟨m, k⟩ := y.isL hr
  have z := y.alloc (o := lstObj (xs ++ ys) 0) (c := .lst (xs ++ ys)) ⟨0, Heap.get?_push_size _ rfl⟩
  refine PySem.P.add_list g k ?_ (by simpa using hz)
  rw [show (xs.toArray ++ ys.toArray) = (xs ++ ys).toArray by simp]
  exact ⟨_, z.2, h _ z.1⟩
theorem w_sub {value slice pos} {Q : Value → Sg → Prop} (h : W b A F L (eval value env) σ fun o σ₁ => W b A F L (eval slice env) σ₁ fun i σ₂ => W b A F L (subscriptTail value slice o i) σ₂ Q) : W b A F L (eval (.Subscript value slice pos) env) σ Q :=
  fun s E x => Subscript_ (wpAny_mono (h s E x) (fun _ s' ⟨_, y, q⟩ => wpAny_mono (q s' E y) (fun _ s' ⟨_, y, q⟩ => q s' E y) fun _ _ e => e) fun _ _ e => e)
theorem w_item {value slice} {l : Addr} {xs : List Value} {k : Nat} {t : Tok} {v : Value} {Q : Value → Sg → Prop} (hl : σ.at_ l = some (.lst xs)) (hk : xs[k]? = some v) (hz : xs.length < 2 ^ 62) (h : Q v σ)
    (hs : subscripted slice false (.ref l) (.int k t) = operate [.ref l, .int k t] (getItem (.ref l) (.int k t)) := by with_unfolding_all rfl) : W b A F L (subscriptTail value slice (.ref l) (.int k t)) σ Q := fun s E y => by
  have hlt : k < xs.length := (List.getElem?_eq_some_iff.mp hk).1
  exact tail_any (y.isList hl).typeIs slot_list_getitem.lookup (wpAny_getItem_list (y.isList hl) (by omega) (by omega) (by simpa using hk) ⟨σ, y, h⟩) hs
theorem w_itemNeg {value slice} {l : Addr} {xs : List Value} {t : Tok} {v : Value} {Q : Value → Sg → Prop} (hl : σ.at_ l = some (.lst (xs ++ [v]))) (hz : xs.length < 2 ^ 62) (h : Q v σ)
    (hs : subscripted slice false (.ref l) (.int (-1) t) = operate [.ref l, .int (-1) t] (getItem (.ref l) (.int (-1) t)) := by with_unfolding_all rfl) : W b A F L (subscriptTail value slice (.ref l) (.int (-1) t)) σ Q := fun s E y => by
  refine tail_any (y.isList hl).typeIs slot_list_getitem.lookup (wpAny_getItem_list_neg (y.isList hl) (by omega) (by simp; omega) (by omega) ?_ ⟨σ, y, h⟩) hs
  have : (-1 + ((xs ++ [v]).toArray.size : Int)).toNat = xs.length := by simp; omega
  rw [this]; simp
/-- list(xs) of a list -/
theorem w_listOf {l : Addr} {xs : List Value} {Q : Value → Sg → Prop} (hl : σ.at_ l = some (.lst xs)) (hz : xs.length ≤ sizeLine) (h : ∀ n, σ.at_ n = none → Q (.ref n) (σ.put n (.lst xs))) : W b A F L (call (.type "list") [.ref l]) σ Q := fun s E y => by
  obtain ⟨n, g⟩ := y.isL hl
  refine PySem.call_list_seq l (.inl rfl) g rfl rfl (hsz := by simpa using hz) fun h' c' hk hn => ?_
  have z := y.allocAt (h' := h') (n := s.heap.objs.size) (c := .lst xs) hk (Heap.get?_size _) ⟨c', hn⟩
  exact ⟨_, z.2, h _ z.1⟩

-- iteration
def itObj (l : Addr) (i : Nat) : Cl := .rcd "list_iterator" [.ref l, .int i 0]
/-- what an iterator gives -/
def Next (b : Base) (A : Around) (F : Fs) (L : Addr) (it : Value) (Fi : Fs) (σ : Sg) (Done : Sg → Prop) (Item : Value → Fs → Sg → Prop) : Prop :=
  ∀ s E, St b (Fi ++ F) L σ s → wpAny (model P b.w) A (pyNext it) (fun r s₁ => match r with
    | none => ∃ σ', St b F L σ' s₁ ∧ Done σ'
    | some v => ∃ Fi' σ', St b (Fi' ++ F) L σ' s₁ ∧ Item v Fi' σ') E s
/-- an iterable's iterator -/
def Iter (b : Base) (A : Around) (F : Fs) (L : Addr) (xv : Value) (σ : Sg) (Q : Value → Fs → Sg → Prop) : Prop :=
  ∀ s E, St b F L σ s → wpAny (model P b.w) A (pyIter xv) (fun it s₂ => ∃ Fi σ₂, St b (Fi ++ F) L σ₂ s₂ ∧ Q it Fi σ₂) E s
theorem Next.mono {it : Value} {Fi : Fs} {D D' : Sg → Prop} {I I' : Value → Fs → Sg → Prop} (h : Next b A F L it Fi σ D I) (hd : ∀ σ, D σ → D' σ) (hi : ∀ v Fi σ, I v Fi σ → I' v Fi σ) : Next b A F L it Fi σ D' I' := fun s E x =>
  wpAny_mono (h s E x) (fun r s₁ q => by
    cases r with
    | none => obtain ⟨σ', y, q⟩ := q; exact ⟨σ', y, hd _ q⟩
    | some v => obtain ⟨Fi', σ', y, q⟩ := q; exact ⟨Fi', σ', y, hi _ _ _ q⟩) fun _ _ e => e

theorem w_forAny {target iter body orelse pos} {Q : Flow → Sg → Prop}
    (h : W b A F L (eval iter env) σ fun xv σ₁ => Iter b A F L xv σ₁ fun it Fi σ₂ => (∀ v, letOwnedTupleGo target it v = pure ()) ∧ ∃ (I : Nat → Fs → Sg → Prop) (n : Nat), I n Fi σ₂ ∧
      ∀ n Fi σ, I n Fi σ → Next b A F L it Fi σ (fun σ' => W b A F L (execs orelse env) σ' Q)
        (fun v Fi' σ' => W b A (Fi' ++ F) L (assign target env v) σ' fun _ σ₂ => W b A (Fi' ++ F) L (execs body env) σ₂ fun fl σ₃ => match fl with
          | .next | .cont => ∃ m, m < n ∧ I m Fi' σ₃
          | fl => NoGen Fi' ∧ Q (match fl with | .brk => .next | fl => fl) σ₃))
    (hs : ∀ x, foldedSetIterable iter env x = pure x := by intro _; with_unfolding_all rfl) : W b A F L (exec (.For target iter body orelse pos) env) σ Q := fun s E x => by
  refine wpAny_For (wpAny_mono (h s E x) (fun xv s₁ ⟨σ₁, y, q⟩ => wpAny_mono (q s₁ E y) (fun it s₂ q => ?_) fun _ _ e => e) fun _ _ e => e) hs
  obtain ⟨Fi, σ₂, y₂, hlet, I, n, hI, step⟩ := q
  refine codeAny_forLoop_any (fun n s => ∃ Fi σ, St b (Fi ++ F) L σ s ∧ I n Fi σ) (fun n s hI => ?_) n ⟨Fi, σ₂, y₂, hI⟩
  obtain ⟨Fi, σ, y, hI⟩ := hI
  refine wpAny_mono (step n Fi σ hI s _ y) (fun r s₁ q => ?_) fun _ _ e => e
  cases r with
  | none =>
    obtain ⟨σ', y', q⟩ := q
    exact wpAny_mono (q s₁ _ y') (fun fl s' ⟨σ', y, q⟩ => ⟨σ', y, q⟩) fun _ _ e => e
  | some v =>
    obtain ⟨Fi', σ', y', q⟩ := q
    dsimp only
    refine wpAny_of_eq (hlet v) ?_
    refine wpAny_mono (q s₁ _ y') (fun _ s₂ ⟨σ₂, y₂, q⟩ => wpAny_mono (q s₂ _ y₂) (fun fl s₃ ⟨σ₃, y₃, q⟩ => ?_) fun _ _ e => e) fun _ _ e => e
    cases fl with
    | next => obtain ⟨m, hm, hI⟩ := q; exact ⟨m, hm, Fi', σ₃, y₃, hI⟩
    | cont => obtain ⟨m, hm, hI⟩ := q; exact ⟨m, hm, Fi', σ₃, y₃, hI⟩
    | brk => exact ⟨σ₃, y₃.dropFs q.1, q.2⟩
    | ret v => exact ⟨σ₃, y₃.dropFs q.1, q.2⟩

-- the iterators
theorem iter_list {l : Addr} {xs : List Value} {Q : Value → Fs → Sg → Prop} (hl : σ.at_ l = some (.lst xs)) (h : ∀ a, Q (.ref a) [(a, .cl (itObj l 0))] σ) : Iter b A F L (.ref l) σ Q := fun s E y => by
  refine wpAny_pyIter_list (y.isList hl) ?_
  have z := y.allocF (o := { cls := .type "list_iterator", data := .fields #[.ref l, .int 0 0] }) (k := .cl (itObj l 0)) ⟨_, Heap.get?_push_size _ rfl, rfl, rfl⟩
  exact ⟨[(_, _)], σ, z.2, h _⟩
theorem next_list {a l : Addr} {i : Nat} {xs : List Value} {D : Sg → Prop} {I : Value → Fs → Sg → Prop} (hh : A.handled = none) (hl : σ.at_ l = some (.lst xs)) (hd : xs[i]? = none → D σ) (hi : ∀ v, xs[i]? = some v → I v [(a, .cl (itObj l (i + 1)))] σ) :
    Next b A F L (.ref a) [(a, .cl (itObj l i))] σ D I := fun s E y => by
  have hit : s.heap.IsListIter a l i := y.fr _ (.head _)
  cases hx : xs[i]? with
  | some v => exact wpAny_pyNext_list_item hit (y.isList hl) (by simpa using hx) fun h' hit' hs' => ⟨[(a, .cl (itObj l (i + 1)))], σ, St.changeF (F := F) y (fun a o n e => (hs'.2 a n).trans e) hit', hi v hx⟩
  | none => exact wpAny_pyNext_list_end hh hit (y.isList hl) (by simpa using hx) fun h' hs' => ⟨σ, St.endF (F := F) y fun a o n e => hs' a o n e, hd hx⟩
theorem self_list {a l : Addr} {i : Nat} {s : Shared} {E : Value → Shared → Prop} {Q : Value → Shared → Prop} (y : St b ([(a, .cl (itObj l i))] ++ F) L σ s) (h : Q (.ref a) s) : wpAny (model P b.w) A (pyIter (.ref a)) Q E s :=
  wpAny_pyIter_listiter (l := l) (i := i) (y.fr _ (.head _)) h
/-- reversed(xs) -/
theorem w_reversed {l : Addr} {xs : List Value} {Q : Value → Sg → Prop} (hl : σ.at_ l = some (.lst xs)) (h : ∀ a, σ.at_ a = none → Q (.ref a) (σ.put a (.obj (revObj l ((xs.length : Int) - 1))))) : W b A F L (call (.type "reversed") [.ref l]) σ Q := fun s E y => by
  refine call_reversed_list (y.isList hl) ?_
  have z := y.alloc (o := revObj l ((xs.length : Int) - 1)) (c := .obj (revObj l ((xs.length : Int) - 1))) (Heap.get?_push_size _ rfl)
  rw [show ((xs.toArray.size : Int) - 1) = (xs.length : Int) - 1 by simp]
  exact ⟨_, z.2, h _ z.1⟩
def rvObj (l : Addr) (i : Int) : Cl := .rcd "list_reverseiterator" [.ref l, rawInt i]
theorem iter_rev {l a : Addr} {i : Int} {Q : Value → Fs → Sg → Prop} (hl : σ.at_ a = some (.obj (revObj l i))) (h : Q (.ref a) [(a, .cl (rvObj l i))] (σ.del a)) : Iter b A F L (.ref a) σ Q := fun s E y => by
  have g : s.heap.get? a = some (revObj l i) := y.cl _ _ hl
  have hit : s.heap.IsRevIter a l i := ⟨_, g, rfl, rfl⟩
  refine wpAny_pyIter_revIter hit ⟨[(a, .cl (rvObj l i))], σ.del a, ?_, h⟩
  have z := St.changeF (k' := .cl (rvObj l i)) (y.hide hl) (h' := s.heap) (fun _ _ _ e => e) hit
  exact z
theorem next_rev {a l : Addr} {i : Nat} {xs : List Value} {D : Sg → Prop} {I : Value → Fs → Sg → Prop} (hh : A.handled = none) (hl : σ.at_ l = some (.lst xs)) (hz : i ≤ xs.length) (hd : i = 0 → D σ) (hi : ∀ k v, i = k + 1 → xs[k]? = some v → I v [(a, .cl (rvObj l ((k : Int) - 1)))] σ) :
    Next b A F L (.ref a) [(a, .cl (rvObj l ((i : Int) - 1)))] σ D I := fun s E y => by
  have hit : s.heap.IsRevIter a l ((i : Int) - 1) := y.fr _ (.head _)
  cases i with
  | zero => exact wpAny_pyNext_rev_end hh hit fun h' hs' => ⟨σ, St.endF (F := F) y fun a o n e => hs' a o n e, hd rfl⟩
  | succ k =>
    have e : ((k + 1 : Nat) : Int) - 1 = (k : Int) := by omega
    rw [e] at hit
    have hx : xs[k]? = some (xs[k]'(by omega)) := List.getElem?_eq_getElem (by omega)
    refine wpAny_pyNext_rev_item hit (y.isList hl) (x := xs[k]'(by omega)) (by simpa using hx) fun h' hit' hs' => ⟨[(a, .cl (rvObj l ((k : Int) - 1)))], σ, St.changeF (F := F) y (fun a o n e => (hs'.2 a n).trans e) hit', hi k _ rfl hx⟩
theorem self_rev {a l : Addr} {i : Int} {s : Shared} {E : Value → Shared → Prop} {Q : Value → Shared → Prop} (y : St b ([(a, .cl (rvObj l i))] ++ F) L σ s) (h : Q (.ref a) s) : wpAny (model P b.w) A (pyIter (.ref a)) Q E s :=
  wpAny_pyIter_revIter (l := l) (i := i) (y.fr _ (.head _)) h
/-- range -/
def rgObj (x y z : Value) : Obj := { cls := .type "range", data := .fields #[x, y, z] }
def rgIt (x n c : Int) : Obj := { cls := .type "range_iterator", data := .fields #[rawInt x, rawInt n, rawInt c] }
theorem iter_range {r : Addr} {x y z : Int} {t u v : Tok} {Q : Value → Fs → Sg → Prop} (hl : σ.at_ r = some (.obj (rgObj (.int x t) (.int y u) (.int z v)))) (hs : Builtin.Range.small x y z = true)
    (h : ∀ a, Q (.ref a) [(a, .cl (.obj (rgIt x (Builtin.Range.rangeSize x y z) z)))] σ) : Iter b A F L (.ref r) σ Q := fun s E g => by
  refine wpAny_pyIter_range (g.cl _ _ hl) hs ?_
  have z := g.allocF (o := rgIt x (Builtin.Range.rangeSize x y z) z) (k := .cl (.obj (rgIt x (Builtin.Range.rangeSize x y z) z))) (Heap.get?_push_size _ rfl)
  exact ⟨[(_, _)], σ, z.2, h _⟩
theorem next_range {a : Addr} {x n c : Int} {D : Sg → Prop} {I : Value → Fs → Sg → Prop} (hh : A.handled = none) (hd : n ≤ 0 → D σ) (hi : ∀ t, 0 < n → I (.int x t) [(a, .cl (.obj (rgIt (x + c) (n - 1) c)))] σ) :
    Next b A F L (.ref a) [(a, .cl (.obj (rgIt x n c)))] σ D I := fun s E y => by
  have hit : IsRangeIter s.heap a x n c := y.fr _ (.head _)
  by_cases hn : 0 < n
  · refine wpAny_pyNext_range_item hit hn fun h' hit' hs' => ⟨[(a, .cl (.obj (rgIt (x + c) (n - 1) c)))], σ, ?_, hi _ hn⟩
    exact (St.changeF (F := F) (k' := .cl (.obj (rgIt (x + c) (n - 1) c))) y (fun a o n e => (hs'.2 a n).trans e) hit').toks _
  · exact wpAny_pyNext_range_end hh hit (by omega) fun h' hs' => ⟨σ, St.endF (F := F) y fun a o n e => hs' a o n e, hd (by omega)⟩

/-- for x in xs: a list, that may be another at each turn -/
theorem w_forL {x : Str} {px : Pos} {iter body orelse pos} {Q : Flow → Sg → Prop} (hh : A.handled = none) (I : Nat → Nat → Sg → Prop)
    (h : W b A F L (eval iter env) σ fun xv σ₁ => ∃ l n, xv = .ref l ∧ I n 0 σ₁ ∧ ∀ n i σ, I n i σ → ∃ xs, σ.at_ l = some (.lst xs) ∧
      (∀ v, xs[i]? = some v → ∀ a k, W b A ((a, k) :: F) L (storeName env x v) σ fun _ σ₂ => W b A ((a, k) :: F) L (execs body env) σ₂ fun fl σ₃ => match fl with
          | .next | .cont => ∃ m, m < n ∧ I m (i + 1) σ₃
          | fl => Q (match fl with | .brk => .next | fl => fl) σ₃) ∧
      (xs[i]? = none → W b A F L (execs orelse env) σ Q))
    (hs : ∀ x, foldedSetIterable iter env x = pure x := by intro _; with_unfolding_all rfl) : W b A F L (exec (.For (.Name x px) iter body orelse pos) env) σ Q := by
  refine w_forAny (W.mono h fun xv σ₁ q => ?_) hs
  obtain ⟨l, n, rfl, hI, step⟩ := q
  obtain ⟨xs₀, hl₀, _⟩ := step n 0 σ₁ hI
  refine iter_list hl₀ fun a => ⟨fun _ => rfl, fun n Fi σ => ∃ i, Fi = [(a, .cl (itObj l i))] ∧ I n i σ, n, ⟨0, rfl, hI⟩, ?_⟩
  rintro n _ σ ⟨i, rfl, hI⟩
  obtain ⟨xs, hl, item, fin⟩ := step n i σ hI
  refine next_list hh hl fin fun v hv => ?_
  refine W.mono (Q := fun _ σ₂ => W b A ((a, .cl (itObj l (i + 1))) :: F) L (execs body env) σ₂ fun fl σ₃ => match fl with
          | .next | .cont => ∃ m, m < n ∧ I m (i + 1) σ₃
          | fl => Q (match fl with | .brk => .next | fl => fl) σ₃) (fun s E z => wpAny_assign_Name (item v hv _ _ s E z)) fun _ σ₂ q => W.mono q fun fl σ₃ q => ?_
  cases fl with
  | next => obtain ⟨m, hm, hI⟩ := q; exact ⟨m, hm, i + 1, rfl, hI⟩
  | cont => obtain ⟨m, hm, hI⟩ := q; exact ⟨m, hm, i + 1, rfl, hI⟩
  | brk => exact ⟨.one, q⟩
  | ret v => exact ⟨.one, q⟩
end
end PartA6

section PartA7
open PySem PySem.W PyProof.Rows PySem.Calls
set_option maxRecDepth 100000

section
variable {b : Base} {A : Around} {F : Fs} {L : Addr} {α β γ : Type} {σ : Sg} {env : Env}

abbrev cEnv (scope : Scope) (C : Addr) (cs : List (Str × Addr)) (env : Env) : Env :=
  { newEnv scope C env.globals cs env.qual none .none (some env) env.builtins with scope := relabel scope env }

def tests (ifs : List Expr) (env : Env) : Sem Bool := forIn ifs true fun c r => if r = true then do let ok ← isTrue c env (eval c env); pure (ForInStep.yield ok) else pure (ForInStep.yield r)
theorem w_tests0 {Q : Bool → Sg → Prop} (h : Q true σ) : W b A F L (tests [] env) σ Q := fun _ _ x => wpAny_tests_nil ⟨σ, x, h⟩
theorem w_tests1 {c : Expr} {Q : Bool → Sg → Prop} (h : W b A F L (isTrue c env (eval c env)) σ Q) : W b A F L (tests [c] env) σ Q := fun s E x => wpAny_tests_one (h s E x)

/-- an iterator is its own iterator -/
def Self (b : Base) (A : Around) (it : Value) (Fi : Fs) : Prop := ∀ s E (Q : Value → Shared → Prop) F L σ, St b (Fi ++ F) L σ s → Q it s → wpAny (model P b.w) A (pyIter it) Q E s
theorem Self.list {a l : Addr} {i : Nat} : Self b A (.ref a) [(a, .cl (itObj l i))] := fun _ _ _ _ _ _ y h => self_list y h
theorem Self.rev {a l : Addr} {i : Int} : Self b A (.ref a) [(a, .cl (rvObj l i))] := fun _ _ _ _ _ _ y h => self_rev y h

/-- an iterable evaluated and its iterator taken -/
def EvIter (b : Base) (A : Around) (F : Fs) (L : Addr) (t : Sem Value) (σ : Sg) (Q : Value → Fs → Sg → Prop) : Prop :=
  ∀ s E, St b F L σ s → wpAny (model P b.w) A t (fun xv s₁ => wpAny (model P b.w) A (pyIter xv) (fun it s₂ => ∃ Fi σ₂, St b (Fi ++ F) L σ₂ s₂ ∧ Q it Fi σ₂) E s₁) E s
theorem EvIter.of {t : Sem Value} {Q : Value → Fs → Sg → Prop} (h : W b A F L t σ fun xv σ₁ => Iter b A F L xv σ₁ Q) : EvIter b A F L t σ Q := fun s E x =>
  wpAny_mono (h s E x) (fun xv s₁ ⟨σ₁, y₁, q⟩ => q s₁ E y₁) fun _ _ e => e

/-- a comprehension over a list -/
theorem w_compEv {elt target iter : Expr} {ifs : List Expr} {scope : Scope} {pos pp : Pos} {cl : List (Str × Addr)} {use : Option (Value → Sem Unit)} {Q : Value → Sg → Prop}
    (hclos : closureFor scope env = pure cl) (hkind : scope.kind = .function) (hnames : ∀ x ∈ scope.names, x.2 = .local → scope.names.lookup x.1 = some .local)
    (hlet : ∀ it v, letOwnedTupleGo target it v = pure ())
    (h : EvIter b A F L (eval iter env) σ fun it Fi σ₂ =>
      Self b A it Fi ∧
      ∀ acc C, CellK scope.names cl { σ₂ with m := fun _ => none } fun cs σ₃ => σ₃.m = (fun _ => none) ∧
        ∃ (I : Nat → Fs → List Value → Sg → Prop) (n : Nat), I n Fi [] σ₃ ∧
        ∀ n Fi ys σ, I n Fi ys σ → ys.length ≤ sizeLine ∧ Next b A ((acc, .cl (.lst ys)) :: (L, .ns σ₂.m) :: F) C it Fi σ
          (fun σ' => σ'.at_ acc = none → match use with
            | none => Q (.ref acc) ({ σ' with m := σ₂.m }.put acc (.lst ys))
            | some u => W b A ((C, .ns σ'.m) :: F) L (u (.ref acc)) ({ σ' with m := σ₂.m }.put acc (.lst ys)) fun _ => Q .none)
          (fun v Fi' σ' => W b A (Fi' ++ (acc, .cl (.lst ys)) :: (L, .ns σ₂.m) :: F) C (assign target (cEnv scope C cs env) v) σ' fun _ σ₄ =>
            W b A (Fi' ++ (acc, .cl (.lst ys)) :: (L, .ns σ₂.m) :: F) C (tests ifs (cEnv scope C cs env)) σ₄ fun ok σ₅ =>
            (ok = true → W b A (Fi' ++ (acc, .cl (.lst ys)) :: (L, .ns σ₂.m) :: F) C (eval elt (cEnv scope C cs env)) σ₅ fun y σ₆ => ∃ m, m < n ∧ I m Fi' (ys ++ [y]) σ₆) ∧
            (ok = false → ∃ m, m < n ∧ I m Fi' ys σ₅)))
    (hs : ∀ x, foldedSetIterable iter env x = pure x := by intro _; with_unfolding_all rfl) :
    W b A F L (comprehension (.ListComp elt [⟨target, iter, ifs, 0⟩] scope pos) scope env pp (newList []) false (eval iter env) use) σ Q := fun s E x => by
  refine wpAny_comprehension_free rfl hs hclos hkind hnames ?_
  refine wpAny_mono (h s E x) (fun xv s₁ q => wpAny_mono q (fun it s₂ ⟨Fi, σ₂, y₂, hself, q⟩ => ?_) fun _ _ e => e) fun _ _ e => e
  have yF : St b ((s₂.heap.objs.size, .cl (.lst [])) :: (Fi ++ F)) L σ₂ { s₂ with heap := s₂.heap.push (lstObj [] 0) } := (y₂.allocF (o := lstObj [] 0) (k := .cl (.lst [])) ⟨0, Heap.get?_push_size _ rfl⟩).2
  refine wpAny_newObj_type ?_ (by show (0 : Nat) ≤ sizeLine; exact Nat.zero_le _)
  refine newEnv_any yF hkind fun C => ?_
  generalize s₂.heap.objs.size = acc at yF ⊢
  have q := q acc C
  have mono : ∀ (names : List (Str × NameKind)) (cs : List (Str × Addr)) (τ : Sg) (k k' : List (Str × Addr) → Sg → Prop), (∀ c t, k c t → k' c t) → CellK names cs τ k → CellK names cs τ k' := by
    intro names
    induction names with
    | nil => intro cs τ k k' hk h; exact hk _ _ h
    | cons p r ih =>
      intro cs τ k k' hk h
      obtain ⟨n, kd⟩ := p
      unfold CellK at h ⊢
      split
      · rename_i q; rw [if_pos q] at h; exact fun c hc => ih _ _ k k' hk (h c hc)
      · rename_i q; rw [if_neg q] at h; exact ih _ _ k k' hk h
  refine mono _ _ _ _ _ (fun cs σ₃ ⟨hm, I, n, hI, step⟩ => ?_) q
  show ∀ s', St b ((L, .ns σ₂.m) :: (acc, .cl (.lst [])) :: (Fi ++ F)) C σ₃ s' → _
  intro s₄ y₄
  have perm : ∀ (Fi : Fs) (ys : List Value), ((L, Kp.ns σ₂.m) :: (acc, .cl (.lst ys)) :: (Fi ++ F)).Perm (Fi ++ (acc, .cl (.lst ys)) :: (L, .ns σ₂.m) :: F) := fun Fi ys => by
    refine (List.Perm.swap _ _ _).trans ?_
    exact (List.perm_append_comm_assoc [(acc, Kp.cl (.lst ys)), (L, .ns σ₂.m)] Fi F)
  have y₅ := y₄.perm (perm Fi [])
  have loop : ∀ s, s = s₄ → codeAny (model P b.w) A (.compLoop (.ListComp elt [⟨target, iter, ifs, 0⟩] scope pos) 0 it (.ref acc) (cEnv scope C cs env)) (compPost (model P b.w) A E use (fun a s' => ∃ σ', St b F L σ' s' ∧ Q a σ') (.ref acc) C) s := by
    rintro _ rfl
    refine codeAny_compLoop_tests (fun k s' => ∃ Fi ys σ, St b (Fi ++ (acc, .cl (.lst ys)) :: (L, .ns σ₂.m) :: F) C σ s' ∧ I k Fi ys σ) ?_ n ⟨Fi, [], σ₃, y₅, hI⟩ (hlet it)
    rintro k s' ⟨Fi, ys, σ, y, hI⟩
    obtain ⟨hsz, step⟩ := step k Fi ys σ hI
    refine wpAny_mono (step s' _ y) (fun r s₅ q => ?_) fun _ _ e => e
    cases r with
    | none =>
      obtain ⟨σ', y', q⟩ := q
      have sh := y'.show
      have q := q sh.1
      have sw := sh.2.swap
      cases use with
      | none =>
        refine ⟨σ'.m, sh.2.ns, fun h' hs' => ?_⟩
        have ye := sw.endF (h' := h') fun y o n e => (hs'.2 y n).trans e
        exact ⟨_, ye, q⟩
      | some u =>
        refine wpAny_mono (q s₅ _ sw) (fun _ s₆ ⟨σ₆, y₆, q⟩ => ?_) fun _ _ e => e
        refine ⟨σ'.m, y₆.fr _ (.head _), fun h' hs' => ?_⟩
        exact ⟨_, y₆.endF (h' := h') fun y o n e => (hs'.2 y n).trans e, q⟩
    | some v =>
      obtain ⟨Fi', σ', y', q⟩ := q
      refine wpAny_mono (q s₅ _ y') (fun _ s₆ ⟨σ₆, y₆, q⟩ => wpAny_mono (q s₆ _ y₆) (fun ok s₇ ⟨σ₇, y₇, q⟩ => ?_) fun _ _ e => e) fun _ _ e => e
      cases ok with
      | false =>
        obtain ⟨m, hm, hI⟩ := q.2 rfl
        exact ⟨m, hm, Fi', ys, σ₇, y₇, hI⟩
      | true =>
        refine wpAny_mono (q.1 rfl s₇ _ y₇) (fun v s₈ ⟨σ₈, y₈, m, hm, hI⟩ => ?_) fun _ _ e => e
        have y₉ := y₈.perm List.perm_middle
        obtain ⟨c, hc⟩ := y₉.fr _ (.head _)
        refine append_at (n := c) (hsz := by simpa using hsz) (its := ys.toArray) (D := acc) hc fun h' hs' ho' => ⟨m, hm, Fi', ys ++ [v], σ₈, ?_, hI⟩
        refine St.perm (F := (acc, .cl (.lst (ys ++ [v]))) :: (Fi' ++ (L, .ns σ₂.m) :: F)) ?_ List.perm_middle.symm
        refine y₉.changeF (fun y o n e => (hs'.2 y n).trans e) ⟨c + 1, ?_⟩
        rw [ho']; simp [lstObj]
  refine codeAny_compStart_list (loop _ rfl) ?_
  exact hself _ _ _ _ _ _ y₅ (loop _ rfl)

/-- a comprehension over a list -/
theorem w_comp {elt target iter : Expr} {ifs : List Expr} {scope : Scope} {pos pp : Pos} {cl : List (Str × Addr)} {use : Option (Value → Sem Unit)} {Q : Value → Sg → Prop}
    (hclos : closureFor scope env = pure cl) (hkind : scope.kind = .function) (hnames : ∀ x ∈ scope.names, x.2 = .local → scope.names.lookup x.1 = some .local)
    (hlet : ∀ it v, letOwnedTupleGo target it v = pure ())
    (h : W b A F L (eval iter env) σ fun xv σ₁ => Iter b A F L xv σ₁ fun it Fi σ₂ =>
      Self b A it Fi ∧
      ∀ acc C, CellK scope.names cl { σ₂ with m := fun _ => none } fun cs σ₃ => σ₃.m = (fun _ => none) ∧
        ∃ (I : Nat → Fs → List Value → Sg → Prop) (n : Nat), I n Fi [] σ₃ ∧
        ∀ n Fi ys σ, I n Fi ys σ → ys.length ≤ sizeLine ∧ Next b A ((acc, .cl (.lst ys)) :: (L, .ns σ₂.m) :: F) C it Fi σ
          (fun σ' => σ'.at_ acc = none → match use with
            | none => Q (.ref acc) ({ σ' with m := σ₂.m }.put acc (.lst ys))
            | some u => W b A ((C, .ns σ'.m) :: F) L (u (.ref acc)) ({ σ' with m := σ₂.m }.put acc (.lst ys)) fun _ => Q .none)
          (fun v Fi' σ' => W b A (Fi' ++ (acc, .cl (.lst ys)) :: (L, .ns σ₂.m) :: F) C (assign target (cEnv scope C cs env) v) σ' fun _ σ₄ =>
            W b A (Fi' ++ (acc, .cl (.lst ys)) :: (L, .ns σ₂.m) :: F) C (tests ifs (cEnv scope C cs env)) σ₄ fun ok σ₅ =>
            (ok = true → W b A (Fi' ++ (acc, .cl (.lst ys)) :: (L, .ns σ₂.m) :: F) C (eval elt (cEnv scope C cs env)) σ₅ fun y σ₆ => ∃ m, m < n ∧ I m Fi' (ys ++ [y]) σ₆) ∧
            (ok = false → ∃ m, m < n ∧ I m Fi' ys σ₅)))
    (hs : ∀ x, foldedSetIterable iter env x = pure x := by intro _; with_unfolding_all rfl) :
    W b A F L (comprehension (.ListComp elt [⟨target, iter, ifs, 0⟩] scope pos) scope env pp (newList []) false (eval iter env) use) σ Q :=
  w_compEv hclos hkind hnames hlet (EvIter.of h) hs

theorem w_listcomp {elt target iter : Expr} {ifs : List Expr} {scope : Scope} {pos : Pos} {Q : Value → Sg → Prop}
    (h : W b A F L (comprehension (.ListComp elt [⟨target, iter, ifs, 0⟩] scope pos) scope env (firstIterPos [⟨target, iter, ifs, 0⟩] pos) (newList []) false (eval iter env) none) σ Q) : W b A F L (eval (.ListComp elt [⟨target, iter, ifs, 0⟩] scope pos) env) σ Q := h
theorem w_assignComp {x : Str} {px : Pos} {elt target iter : Expr} {ifs : List Expr} {scope : Scope} {pos pos' : Pos} {Q : Flow → Sg → Prop}
    (h : W b A F L (comprehension (.ListComp elt [⟨target, iter, ifs, 0⟩] scope pos) scope env (firstIterPos [⟨target, iter, ifs, 0⟩] pos) (newList []) false (eval iter env) (some (assign (.Name x px) env))) σ fun _ => Q .next)
    (hs : swapsWith (.ListComp elt [⟨target, iter, ifs, 0⟩] scope pos) (some (.Name x px)) pos'.line env = pure true := by with_unfolding_all rfl) : W b A F L (exec (.Assign [.Name x px] (.ListComp elt [⟨target, iter, ifs, 0⟩] scope pos) pos') env) σ Q := fun s E y => by
  rw [exec_Assign_Name_used _ _ _ _ hs]
  refine wpAny_bind (wpAny_standAt (wpAny_bind ?_))
  show wpAny _ _ (comprehension _ _ _ _ _ _ _ _ >>= fun _ => pure ()) _ _ _
  exact wpAny_bind (wpAny_mono (h s E y) (fun _ s' ⟨σ', y, q⟩ => wpAny_pure (wpAny_pure ⟨σ', y, q⟩)) fun _ _ e => e)
theorem w_assignN {x : Str} {px : Pos} {v : Value} {Q : Unit → Sg → Prop} (h : W b A F L (storeName env x v) σ Q) : W b A F L (assign (.Name x px) env v) σ Q := fun s E z => wpAny_assign_Name (h s E z)

/-- what stood stands; the generators that came are done -/
structure Ext (σ τ : Sg) : Prop where
  at_ : ∀ a c, σ.at_ a = some c → τ.at_ a = some c
  gens : ∃ g : List GenState, τ.gens = σ.gens ++ g.toArray ∧ ∀ x ∈ g, x.bare = true
theorem Ext.rfl {σ : Sg} : Ext σ σ := ⟨fun _ _ e => e, [], by simp, fun _ h => by cases h⟩
theorem Ext.trans {σ τ υ : Sg} (x : Ext σ τ) (y : Ext τ υ) : Ext σ υ := by
  obtain ⟨g, e, h⟩ := x.gens
  obtain ⟨g', e', h'⟩ := y.gens
  refine ⟨fun a c q => y.at_ a c (x.at_ a c q), g ++ g', by rw [e', e]; simp [Array.append_assoc], fun x hx => ?_⟩
  rcases List.mem_append.mp hx with q | q
  · exact h x q
  · exact h' x q
theorem Ext.m {σ τ : Sg} (x : Ext σ τ) (m m' : NsMap) : Ext { σ with m := m } { τ with m := m' } := ⟨x.at_, x.gens⟩
theorem Ext.mr {σ τ : Sg} (x : Ext σ τ) (m' : NsMap) : Ext σ { τ with m := m' } := ⟨x.at_, x.gens⟩
theorem Ext.ml {σ τ : Sg} {m : NsMap} (x : Ext σ τ) : Ext { σ with m := m } τ := ⟨x.at_, x.gens⟩
theorem Ext.new {σ : Sg} {a : Addr} {c : Cl} (h : σ.at_ a = none) : Ext σ (σ.put a c) := ⟨fun y c' e => by
  simp only [Sg.put]
  split
  · rename_i q; rw [q, h] at e; cases e
  · exact e, [], by simp [Sg.put], fun _ h => by cases h⟩
theorem Ext.put {σ τ : Sg} {a : Addr} {c : Cl} (x : Ext σ τ) (h : τ.at_ a = none) : Ext σ (τ.put a c) := x.trans (.new h)
theorem Ext.putN {σ τ : Sg} {a : Addr} {c : Cl} (x : Ext σ τ) (h : σ.at_ a = none) : Ext σ (τ.put a c) := ⟨fun y c' e => by
  simp only [Sg.put]
  split
  · rename_i q; rw [q, h] at e; cases e
  · exact x.at_ _ _ e, x.gens⟩
theorem Ext.setL {σ τ : Sg} {n : Str} {v : Value} (x : Ext σ τ) : Ext σ (τ.setL n v) := ⟨x.at_, x.gens⟩

theorem Paired.mono {α β : Type} {R R' : α → β → Prop} {l₁ : List α} {l₂ : List β} (k : ∀ a b, R a b → R' a b) (h : Paired R l₁ l₂) : Paired R' l₁ l₂ := by
  induction h with
  | nil => exact .nil
  | cons h _ ih => exact .cons (k _ _ h) ih

/-- the common kind: over a list, with the one name; what is kept of each is known -/
theorem w_compR {elt iter : Expr} {x : Str} {px : Pos} {ifs : List Expr} {scope : Scope} {pos pp : Pos} {cl : List (Str × Addr)} {use : Option (Value → Sem Unit)} {Q : Value → Sg → Prop} (p : Value → Bool) (R : Value → Value → Sg → Prop) (hh : A.handled = none)
    (hclos : closureFor scope env = pure cl) (hkind : scope.kind = .function) (hnames : ∀ x ∈ scope.names, x.2 = .local → scope.names.lookup x.1 = some .local)
    (hcell : ∀ y ∈ scope.names, y.2 ≠ .cell) (hx : scope.names.lookup x = some .local)
    (h : W b A F L (eval iter env) σ fun xv σ₁ => ∃ l xs, xv = .ref l ∧ σ₁.at_ l = some (.lst xs) ∧ xs.length ≤ sizeLine ∧
          (∀ v y τ υ, Ext τ υ → R v y τ → R v y υ) ∧
          (∀ v ∈ xs, ∀ τ C F', Ext σ₁ τ → τ.m x = some v → W b A F' C (tests ifs (cEnv scope C cl env)) τ fun ok σ₅ => ok = p v ∧ Ext τ σ₅ ∧
            (p v = true → W b A F' C (eval elt (cEnv scope C cl env)) σ₅ fun y σ₆ => Ext σ₅ σ₆ ∧ R v y σ₆)) ∧
          (∀ ys τ acc, Ext σ₁ τ → Paired (fun v y => R v y τ) (xs.filter p) ys → τ.at_ acc = none → τ.m = σ₁.m → match use with
            | none => Q (.ref acc) (τ.put acc (.lst ys))
            | some u => ∀ C m, W b A ((C, .ns m) :: F) L (u (.ref acc)) (τ.put acc (.lst ys)) fun _ => Q .none))
    (hs : ∀ x, foldedSetIterable iter env x = pure x := by intro _; with_unfolding_all rfl) :
    W b A F L (comprehension (.ListComp elt [⟨.Name x px, iter, ifs, 0⟩] scope pos) scope env pp (newList []) false (eval iter env) use) σ Q := by
  refine w_comp hclos hkind hnames (fun _ _ => by rfl) (W.mono h fun xv σ₁ ⟨l, xs, e, hl, hz, mono, body, fin⟩ => ?_) hs
  subst e
  refine iter_list hl fun a => ⟨Self.list, fun acc C => ?_⟩
  have ck : ∀ (names : List (Str × NameKind)) (τ : Sg) (k : List (Str × Addr) → Sg → Prop), (∀ y ∈ names, y.2 ≠ .cell) → k cl τ → CellK names cl τ k := by
    intro names
    induction names with
    | nil => intro τ k _ h; exact h
    | cons q r ih =>
      intro τ k hn h
      obtain ⟨n, kd⟩ := q
      unfold CellK
      have : (kd == NameKind.cell) = false := by simpa using hn (n, kd) (.head _)
      rw [if_neg (by simp [this])]
      exact ih _ _ (fun y hy => hn y (.tail _ hy)) h
  refine ck _ _ _ hcell ⟨rfl, fun k Fi ys τ => ∃ i, Fi = [(a, .cl (itObj l i))] ∧ i ≤ xs.length ∧ k = xs.length - i ∧ Ext σ₁ τ ∧ Paired (fun v y => R v y τ) ((xs.take i).filter p) ys, xs.length, ⟨0, rfl, Nat.zero_le _, rfl, Ext.rfl.mr _, by simpa using Paired.nil⟩, ?_⟩
  rintro n _ ys τ ⟨i, rfl, hi, hn, hE, hP⟩
  have hlen := hP.length
  have hle : ((xs.take i).filter p).length ≤ (xs.take i).length := List.length_filter_le _ _
  have hle2 : (xs.take i).length ≤ xs.length := by simp; omega
  refine ⟨by omega, next_list hh (hE.at_ _ _ hl) (fun hx' hacc => ?_) fun v hv => ?_⟩
  · have : i = xs.length := by have := List.getElem?_eq_none_iff.mp hx'; omega
    subst this
    rw [List.take_length] at hP
    have f := fin ys { τ with m := σ₁.m } acc (hE.mr _) (Paired.mono (fun v y h => mono _ _ _ _ (Ext.rfl.mr _) h) hP) hacc rfl
    cases use with
    | none => exact f
    | some u => exact f C τ.m
  · have hlt : i < xs.length := (List.getElem?_eq_some_iff.mp hv).1
    have hmem : v ∈ xs := List.mem_of_getElem? hv
    refine w_assignN (w_storeL rfl ?_ (by show (relabel scope env).kind = _; exact hkind) (lookup_relabel_local hx))
    refine W.mono (body v hmem _ _ _ hE.setL (by simp [Sg.setL])) fun ok σ₅ ⟨hok, hE₅, hb⟩ => ⟨fun ht => ?_, fun hf => ?_⟩
    · rw [hok] at ht
      refine W.mono (hb ht) fun y σ₆ ⟨hE₆, hR⟩ => ⟨n - 1, by omega, i + 1, rfl, by omega, by omega, hE.trans ((Ext.rfl.setL).trans (hE₅.trans hE₆)), ?_⟩
      rw [take_succ_filter p _ i v hv, ht]
      exact (Paired.mono (fun v y h => mono _ _ _ _ ((Ext.rfl.setL).trans (hE₅.trans hE₆)) h) hP).snoc hR
    · rw [hok] at hf
      refine ⟨n - 1, by omega, i + 1, rfl, by omega, by omega, hE.trans ((Ext.rfl.setL).trans hE₅), ?_⟩
      rw [take_succ_filter p _ i v hv, hf]
      simpa using Paired.mono (fun v y h => mono _ _ _ _ ((Ext.rfl.setL).trans hE₅) h) hP
end
end PartA7

section PartA8
open PySem PySem.W PyProof.Rows PySem.Calls
set_option maxRecDepth 100000
set_option linter.unusedVariables false

section
variable {b : Base} {A : Around} {F : Fs} {L : Addr} {α β γ : Type} {σ : Sg} {env : Env}

-- ints
theorem w_addI {x y : Int} {t u : Tok} {Q : Value → Sg → Prop} (h : ∀ t, Q (.int (x + y) t) σ) : W b A F L (binaryOp .Add (.int x t) (.int y u)) σ Q := fun s E z => PySem.P.add_int ⟨σ, z.toks _, h _⟩
theorem w_subI {x y : Int} {t u : Tok} {Q : Value → Sg → Prop} (h : ∀ t, Q (.int (x - y) t) σ) : W b A F L (binaryOp .Sub (.int x t) (.int y u)) σ Q := fun s E z => PySem.P.sub_int ⟨σ, z.toks _, h _⟩
theorem w_modI {x y : Int} {t u : Tok} {Q : Value → Sg → Prop} (hy : y ≠ 0) (h : ∀ t, Q (.int (x.fmod y) t) σ) : W b A F L (binaryOp .Mod (.int x t) (.int y u)) σ Q := fun s E z => PyProof.Rows.mod_int hy ⟨σ, z.toks _, h _⟩
theorem w_divI {x y : Int} {t u : Tok} {Q : Value → Sg → Prop} (hy : y ≠ 0) (hp : Builtin.divisionGoesByPylong x y = false) (h : ∀ t, Q (.int (x.fdiv y) t) σ) : W b A F L (binaryOp .FloorDiv (.int x t) (.int y u)) σ Q := fun s E z =>
  PyProof.Rows.floordiv_int hy ⟨σ, z.toks _, h _⟩ (Or.inl hp)
theorem w_eqI {x y : Int} {t u : Tok} {Q : Value → Sg → Prop} (h : Q (.bool (x == y)) σ) : W b A F L (compareOp .Eq (.int x t) (.int y u)) σ Q := fun s E z => PySem.P.eq_int ⟨σ, z, h⟩
theorem w_neI {x y : Int} {t u : Tok} {Q : Value → Sg → Prop} (h : Q (.bool (x != y)) σ) : W b A F L (compareOp .NotEq (.int x t) (.int y u)) σ Q := fun s E z => PySem.P.ne_int ⟨σ, z, h⟩
theorem w_ltI {x y : Int} {t u : Tok} {Q : Value → Sg → Prop} (h : Q (.bool (decide (x < y))) σ) : W b A F L (compareOp .Lt (.int x t) (.int y u)) σ Q := fun s E z => PySem.P.lt_int ⟨σ, z, h⟩
theorem w_negI {x : Int} {t : Tok} {Q : Value → Sg → Prop} (h : ∀ t, Q (.int (-x) t) σ) : W b A F L (unaryOp .USub (.int x t)) σ Q := fun s E z => PySem.P.neg_int ⟨σ, z.toks _, h _⟩
theorem w_truthyI {x : Int} {t : Tok} {Q : Bool → Sg → Prop} (h : Q (x != 0) σ) : W b A F L (truthy (.int x t)) σ Q := fun s E z => PySem.P.truthy_int ⟨σ, z, h⟩
theorem w_strI {x : Int} {t : Tok} {Q : Value → Sg → Prop} (hx : x.natAbs.log2 < 1920) (h : ∀ t, Q (.str (toString x) t) σ) : W b A F L (call (.type "str") [.int x t]) σ Q := fun s E z => PySem.P.str_of_int hx ⟨σ, z.toks _, h _⟩
theorem w_min {x y : Int} {t u : Tok} {Q : Value → Sg → Prop} (hh : A.handled = none) (h : ∀ t, Q (.int (min x y) t) σ) : W b A F L (call (.builtin "min") [.int x t, .int y u]) σ Q := fun s E z =>
  PySem.min_two_ints hh fun h' tk hk => by
    refine ⟨σ, (z.grow hk).toks _, ?_⟩
    split
    · rw [show y = min x y by omega]; exact h _
    · rw [show x = min x y by omega]; exact h _
-- strs
theorem w_eqS {x y : Str} {t u : Tok} {Q : Value → Sg → Prop} (h : Q (.bool (x == y)) σ) : W b A F L (compareOp .Eq (.str x t) (.str y u)) σ Q := fun s E z => PyProof.Rows.eq_str ⟨σ, z, h⟩
theorem w_neS {x y : Str} {t u : Tok} {Q : Value → Sg → Prop} (h : Q (.bool (x != y)) σ) : W b A F L (compareOp .NotEq (.str x t) (.str y u)) σ Q := fun s E z => PyProof.Rows.ne_str ⟨σ, z, h⟩
-- bools
theorem w_neB {x y : Bool} {Q : Value → Sg → Prop} (h : Q (.bool (x != y)) σ) : W b A F L (compareOp .NotEq (.bool x) (.bool y)) σ Q := fun s E z => PyProof.Rows.ne_bool ⟨σ, z, h⟩
-- tuples
theorem w_inT {a : Addr} {vs : List Value} {ys : List Str} {x : Str} {u : Tok} {Q : Value → Sg → Prop} (ht : σ.at_ a = some (.obj (tupObj vs))) (hi : StrsAre vs ys) (h : Q (.bool (ys.any (· == x))) σ) : W b A F L (compareOp .In (.str x u) (.ref a)) σ Q := fun s E z =>
  PyProof.Rows.in_tuple_strs (items := vs.toArray) ⟨_, z.cl _ _ ht, rfl, 0, rfl⟩ (by simpa using hi) ⟨σ, z, h⟩
theorem w_itemT {value slice} {a : Addr} {vs : List Value} {k : Nat} {t : Tok} {v : Value} {Q : Value → Sg → Prop} (ht : σ.at_ a = some (.obj (tupObj vs))) (hk : vs[k]? = some v) (hz : vs.length < 2 ^ 62) (h : Q v σ)
    (hs : subscripted slice false (.ref a) (.int k t) = operate [.ref a, .int k t] (getItem (.ref a) (.int k t)) := by with_unfolding_all rfl) : W b A F L (subscriptTail value slice (.ref a) (.int k t)) σ Q := fun s E z => by
  have hlt : k < vs.length := (List.getElem?_eq_some_iff.mp hk).1
  have T : IsTup s.heap a vs.toArray := ⟨_, z.cl _ _ ht, rfl, 0, rfl⟩
  exact tail_any T.typeIs slot_tuple_getitem.lookup (PyProof.Rows.getItem_tuple (j := k) T (by omega) (by omega) (by unfold seqIndex?; simp; omega) (by simpa using hk) ⟨σ, z, h⟩) hs
-- ranges
theorem w_range1 {x : Int} {t : Tok} {Q : Value → Sg → Prop} (h : ∀ r t u v, σ.at_ r = none → Q (.ref r) (σ.put r (.obj (rgObj (.int 0 t) (.int x u) (.int 1 v))))) : W b A F L (call (.type "range") [.int x t]) σ Q := fun s E z => by
  refine PySem.call_range_1 ?_
  have w := z.alloc (o := rgObj (.int 0 s.toks) (.int x t) (.int 1 (s.toks + 1))) (c := .obj (rgObj (.int 0 s.toks) (.int x t) (.int 1 (s.toks + 1)))) (Heap.get?_push_size _ rfl)
  exact ⟨_, w.2.toks _, h _ _ _ _ w.1⟩
theorem w_range2 {x y : Int} {t u : Tok} {Q : Value → Sg → Prop} (h : ∀ r t u v, σ.at_ r = none → Q (.ref r) (σ.put r (.obj (rgObj (.int x t) (.int y u) (.int 1 v))))) : W b A F L (call (.type "range") [.int x t, .int y u]) σ Q := fun s E z => by
  refine PySem.call_range_2 ?_
  have w := z.alloc (o := rgObj (.int x t) (.int y u) (.int 1 s.toks)) (c := .obj (rgObj (.int x t) (.int y u) (.int 1 s.toks))) (Heap.get?_push_size _ rfl)
  exact ⟨_, w.2.toks _, h _ _ _ _ w.1⟩
theorem w_range3 {x y : Int} {t u v : Tok} {Q : Value → Sg → Prop} (hp : Builtin.divisionGoesByPylong (y - x) (-1) = false) (h : ∀ r, σ.at_ r = none → Q (.ref r) (σ.put r (.obj (rgObj (.int x t) (.int y u) (.int (-1) v))))) : W b A F L (call (.type "range") [.int x t, .int y u, .int (-1) v]) σ Q := fun s E z => by
  refine PySem.call_range_3 (by decide) ?_ (Or.inl hp)
  have w := z.alloc (o := rgObj (.int x t) (.int y u) (.int (-1) v)) (c := .obj (rgObj (.int x t) (.int y u) (.int (-1) v))) (Heap.get?_push_size _ rfl)
  exact ⟨_, w.2.toks _, h _ w.1⟩
end
end PartA8

section PartA9
open PySem PySem.W PyProof.Rows PySem.Calls
open AutoSeq1 (wpAny_loadPart')
set_option maxRecDepth 100000
set_option linter.unusedVariables false

section
variable {b : Base} {A : Around} {F : Fs} {L : Addr} {α β γ : Type} {σ : Sg} {env : Env}

-- slices
theorem w_slice {lo hi : Option Expr} {p : Pos} {Q : Value → Sg → Prop}
    (h : W b A F L (evalPart lo env) σ fun l σ₁ => W b A F L (evalPart hi env) σ₁ fun u σ₂ => ∀ a, σ₂.at_ a = none → Q (.ref a) (σ₂.put a (.obj { cls := .type "slice", data := .fields #[l, u, .none] }))) :
    W b A F L (eval (.Slice lo hi none p) env) σ Q := fun s E z => by
  refine wpAny_Slice (wpAny_mono (h s E z) (fun l s₁ ⟨σ₁, z₁, q⟩ => wpAny_mono (q s₁ E z₁) (fun u s₂ ⟨σ₂, z₂, q⟩ => ?_) fun _ _ e => e) fun _ _ e => e)
  refine wpAny_pure ?_
  have w := z₂.alloc (o := { cls := .type "slice", data := .fields #[l, u, .none] }) (c := .obj { cls := .type "slice", data := .fields #[l, u, .none] }) (Heap.get?_push_size _ rfl)
  exact ⟨_, w.2, q _ w.1⟩
theorem w_part0 {Q : Value → Sg → Prop} (h : Q .none σ) : W b A F L (evalPart none env) σ Q := fun s E z => wpAny_pure ⟨σ, z, h⟩
theorem w_part1 {e : Expr} {Q : Value → Sg → Prop} (h : W b A F L (eval e env) σ Q) : W b A F L (evalPart (some e) env) σ Q := h
theorem w_sliceAt {value slice} {l a : Addr} {xs : List Value} {vl vu : Value} {lo hi : Option Int} {ys : List Value} {Q : Value → Sg → Prop} (hl : σ.at_ l = some (.lst xs)) (ha : σ.at_ a = some (.obj { cls := .type "slice", data := .fields #[vl, vu, .none] }))
    (pl : IsPart vl lo) (pu : IsPart vu hi) (hz : xs.length ≤ sizeLine) (hy : slicePick xs.toArray lo hi none = ys.toArray) (h : ∀ n, σ.at_ n = none → Q (.ref n) (σ.put n (.lst ys)))
    (hs : subscripted slice false (.ref l) (.ref a) = operate [.ref a, .ref l] (getItem (.ref l) (.ref a)) := by with_unfolding_all rfl)
    (ht : ∀ r, letTemporaryGo value (.ref l) r = pure () := by intro _; with_unfolding_all rfl) : W b A F L (subscriptTail value slice (.ref l) (.ref a)) σ Q := fun s E z => by
  have I : s.heap.IsSliceOf a vl vu .none := ⟨_, z.cl _ _ ha, rfl, rfl⟩
  refine subscriptTail_ops (z.isList hl).typeIs list_getitem_lookup (wpAny_getItem_list_slice (z.isList hl) I pl pu .none (by simp) ?_ (by simpa using hz)) hs ht
  rw [hy]
  have w := z.alloc (o := lstObj ys 0) (c := .lst ys) ⟨0, Heap.get?_push_size _ rfl⟩
  exact ⟨_, w.2, h _ w.1⟩

-- writing
theorem w_assignSub {o i pos' value pos} {Q : Flow → Sg → Prop}
    (h : W b A F L (eval value env) σ fun v σ₁ => W b A F L (eval o env) σ₁ fun ov σ₂ => W b A F L (eval i env) σ₂ fun iv σ₃ => W b A F L (setItem ov iv v) σ₃ fun _ => Q .next)
    (hs : swapsWith value (some (.Subscript o i pos')) pos.line env = pure false := by rfl) : W b A F L (exec (.Assign [.Subscript o i pos'] value pos) env) σ Q := fun s E x =>
  wpAny_Assign_Subscript (wpAny_mono (h s E x) (fun _ s' ⟨_, y, q⟩ => wpAny_mono (q s' E y) (fun _ s' ⟨_, y, q⟩ => wpAny_mono (q s' E y) (fun _ s' ⟨_, y, q⟩ => q s' E y) fun _ _ e => e) fun _ _ e => e) fun _ _ e => e) hs


theorem upd_lst {s : Shared} {l : Addr} {xs ys : List Value} {n : Nat} {f : Array Value → Array Value} (g : s.heap.get? l = some (lstObj xs n)) (e : f xs.toArray = ys.toArray) : ∃ m, (s.heap.update l (Obj.mapSeq f)).get? l = some (lstObj ys m) := by
  rw [Heap.get?_update_self _ g rfl]
  simp only [lstObj, Obj.mapSeq, e]
  exact ⟨_, rfl⟩

theorem setItem_raw {s : Shared} {E : Value → Shared → Prop} {l : Addr} {xs : List Value} {n : Nat} {i : Int} {t : Tok} {v : Value} {Q : Unit → Shared → Prop} (g : s.heap.get? l = some (lstObj xs n)) (fit : Builtin.List.listFitsIndex i = true) (h0 : 0 ≤ i) (hk : i < xs.length)
    (h : Q () { s with heap := s.heap.update l (Obj.mapSeq (·.setIfInBounds i.toNat v)) }) : wpAny (model P b.w) A (setItem (.ref l) (.int i t) v) Q E s := by
  have hT : s.TypeIs (.ref l) "list" := ⟨_, g, rfl⟩
  unfold setItem
  try with_reducible refine wpAny_holding ?_
  first | refine wpAny_bind (wpAny_pure ?_) | skip
  refine wpAny_bind (wpAny_sequenceKey hT (by decide) ?_)
  refine wpAny_bind (wpAny_callSpecial?_slot (name := Str.ofString "__setitem__") hT slot_list_setitem (wpAny_call_entry slot_list_setitem hT entry_list_setitem ?_ (args_list_setitem _ _ _)))
  show wpAny _ _ (Builtin.List.listSubscript? (.int i t) >>= _) _ _ s
  refine wpAny_bind (wpAny_listSubscript_int fit ?_)
  clear fit
  obtain ⟨j, rfl⟩ := Int.eq_ofNat_of_zero_le h0
  have hk : j < xs.length := by omega
  have hx : xs.toArray[j]? = some (xs[j]'hk) := by simp [hk]
  show wpAny _ _ ((seqItemAt l j >>= fun r => pure (r.map (j, ·))) >>= _) _ _ s
  refine wpAny_bind (wpAny_bind (wpAny_seqItemAt g rfl (wpAny_pure ?_)))
  rw [hx]
  show wpAny _ _ (setSeqItemAt l j v >>= _) _ _ s
  refine wpAny_bind (wpAny_setSeqItemAt g rfl ?_)
  first
    | exact wpAny_bind (wpAny_pure (wpAny_pure ⟨.none, rfl, wpAny_pure h⟩))
    | exact wpAny_pure ⟨.none, rfl, wpAny_pure h⟩
theorem w_setItem {l : Addr} {xs : List Value} {k : Nat} {t : Tok} {v : Value} {Q : Unit → Sg → Prop} (hl : σ.at_ l = some (.lst xs)) (hk : k < xs.length) (hz : xs.length < 2 ^ 62) (h : Q () (σ.put l (.lst (xs.set k v)))) :
    W b A F L (setItem (.ref l) (.int k t) v) σ Q := fun s E z => by
  obtain ⟨n, g⟩ := z.isL hl
  have g : s.heap.get? l = some (lstObj xs n) := g
  exact setItem_raw g (fitsIndex_of (k := (k : Int)) (by omega) (by omega)) (by omega) (by omega) ⟨_, z.change (c := .lst (xs.set k v)) hl (Heap.SameBut.update ..) (upd_lst g (by simp)), h⟩

/-- xs[i:i+1] = ys -/
theorem w_setSlice {l r a : Addr} {xs ys : List Value} {k : Nat} {t u : Tok} {Q : Unit → Sg → Prop} (hl : σ.at_ l = some (.lst xs)) (hr : σ.at_ r = some (.lst ys))
    (ha : σ.at_ a = some (.obj { cls := .type "slice", data := .fields #[.int k t, .int (k + 1 : Nat) u, .none] })) (hk : k < xs.length) (hz : xs.length + ys.length ≤ sizeLine) (hz2 : xs.length + ys.length < 2 ^ 59) (h : Q () (σ.put l (.lst (xs.take k ++ ys ++ xs.drop (k + 1))))) :
    W b A F L (setItem (.ref l) (.ref a) (.ref r)) σ Q := fun s E z => by
  obtain ⟨n, g⟩ := z.isL hl
  have g : s.heap.get? l = some (lstObj xs n) := g
  obtain ⟨m, gr⟩ := z.isL hr
  have gr : s.heap.get? r = some (lstObj ys m) := gr
  have hT : s.TypeIs (.ref l) "list" := ⟨_, g, rfl⟩
  have ga := z.cl _ _ ha
  have ga : s.heap.get? a = some { cls := .type "slice", data := .fields #[.int k t, .int (k + 1 : Nat) u, .none] } := ga
  have hTs : s.TypeIs (.ref a) "slice" := ⟨_, ga, rfl⟩
  unfold setItem
  try with_reducible refine wpAny_holding ?_
  first | refine wpAny_bind (wpAny_pure ?_) | skip
  refine wpAny_bind (wpAny_sequenceKey hT (by decide) ?_)
  refine wpAny_bind (wpAny_callSpecial?_slot (name := Str.ofString "__setitem__") hT slot_list_setitem (wpAny_call_entry slot_list_setitem hT entry_list_setitem ?_ (args_list_setitem _ _ _)))
  show wpAny _ _ (Builtin.List.listSubscript? (.ref a) >>= _) _ _ s
  refine wpAny_bind ?_
  unfold Builtin.List.listSubscript?
  refine wpAny_bind (wpAny_specialOf hTs slice_no_index ?_)
  simp only [Option.isNone_none, if_true]
  refine wpAny_pure ?_
  show wpAny _ _ (typeOf (.ref a) >>= _) _ _ s
  refine wpAny_bind (wpAny_typeOf hTs ?_)
  rw [if_neg (by decide)]
  rw [listSliceParts_eq]
  refine wpAny_bind (wpAny_bind (wpAny_field ga rfl (x := .none) rfl (wpAny_bind (wpAny_listPart .none ?_))))
  rw [if_neg (by decide)]
  refine wpAny_bind (wpAny_field ga rfl (x := .int k t) rfl (wpAny_bind (wpAny_listPart (.int k t) ?_)))
  refine wpAny_bind (wpAny_field ga rfl (x := .int (k + 1 : Nat) u) rfl (wpAny_bind (wpAny_listPart (.int _ u) (wpAny_pure ?_))))
  have tail : ∀ (new : Array Value) (Q' : Fin → Shared → Prop), new = ys.toArray → (∀ s', s' = { s with heap := s.heap.update l (Obj.mapSeq fun ys' => ys'.extract 0 k ++ new ++ ys'.extract (k + 1)) } → Q' (.done (.ret .none)) s') → wpAny (model P b.w) A.in1 (do
      let xs ← Builtin.List.listItems (Value.ref l)
      let __x ←
        sliceIndices (rawPart (some ↑k)) (rawPart (some ↑(k + 1))) (rawPart none) xs.size
      if (__x.2.snd == 1) = true then do
          rule "list.__setitem__.slice"
          if Builtin.List.listTooLong (xs.size + new.size) = true then do
              unsupported "list.__setitem__:memory"
              Builtin.List.listUpdate (Value.ref l) fun xs =>
                  xs.extract 0 __x.fst.toNat ++ new ++ xs.extract (max __x.fst __x.2.fst).toNat
              letGo (xs.extract __x.fst.toNat (max __x.fst __x.2.fst).toNat).toList.reverse
              ret Value.none
            else do
              Builtin.List.listUpdate (Value.ref l) fun xs =>
                  xs.extract 0 __x.fst.toNat ++ new ++ xs.extract (max __x.fst __x.2.fst).toNat
              letGo (xs.extract __x.fst.toNat (max __x.fst __x.2.fst).toNat).toList.reverse
              ret Value.none
        else
          if (new.size != (sliceRange __x.fst __x.2.fst __x.2.snd).length) = true then do
            rule "list.__setitem__.extended-slice-size"
            raiseErrorMade "ValueError"
                (toString "attempt to assign sequence of size " ++ toString new.size ++
                    toString " to extended slice of size " ++
                  toString (sliceRange __x.fst __x.2.fst __x.2.snd).length)
            rule "list.__setitem__.extended-slice"
            Builtin.List.listUpdate (Value.ref l) fun xs =>
                List.foldl (fun xs x => xs.setIfInBounds x.fst x.snd) xs
                  ((sliceRange __x.fst __x.2.fst __x.2.snd).zip new.toList)
            letGo (List.filterMap (fun x => xs[x]?) (sliceRange __x.fst __x.2.fst __x.2.snd))
            ret Value.none
          else do
            rule "list.__setitem__.extended-slice"
            Builtin.List.listUpdate (Value.ref l) fun xs =>
                List.foldl (fun xs x => xs.setIfInBounds x.fst x.snd) xs
                  ((sliceRange __x.fst __x.2.fst __x.2.snd).zip new.toList)
            letGo (List.filterMap (fun x => xs[x]?) (sliceRange __x.fst __x.2.fst __x.2.snd))
            ret Value.none) Q' E s := by
    intro new Q' hn hq
    unfold Builtin.List.listItems
    refine wpAny_bind (wpAny_bind (wpAny_seqItems g rfl (wpAny_pure ?_)))
    refine wpAny_bind (wpAny_of_eq (sliceIndices_raw (some k) (some (k + 1 : Nat)) none xs.toArray.size (by simp)) ?_)
    rw [sliceBounds_plain]
    simp only [Option.elim, clipAt_nat]
    rw [show min k xs.toArray.size = k by simp; omega, show min (k + 1) xs.toArray.size = k + 1 by simp; omega]
    rw [if_pos (by decide), show (max (k : Int) ((k + 1 : Nat) : Int)).toNat = k + 1 by omega, show ((k : Int)).toNat = k by omega]
    refine wpAny_bind (wpAny_rule ?_)
    rw [if_neg (by subst hn; unfold Builtin.List.listTooLong; simp; omega)]
    subst hn
    refine wpAny_bind (m := updateSeq l _) (wpAny_updateSeq g rfl ?_ (by simp; omega) (by simp; omega))
    refine wpAny_bind (wpAny_letGo ?_)
    exact wpAny_pure (hq _ rfl)
  have fin : ∃ σ', St b F L σ' { s with heap := s.heap.update l (Obj.mapSeq fun ys' => ys'.extract 0 k ++ ys.toArray ++ ys'.extract (k + 1)) } ∧ Q () σ' :=
    ⟨_, z.change (c := .lst (xs.take k ++ ys ++ xs.drop (k + 1))) hl (Heap.SameBut.update ..) (upd_lst g (by simp; exact List.take_of_length_le (by simp))), h⟩
  refine wpAny_ite_split (fun _ => ?_) (fun _ => ?_)
  · refine wpAny_bind (m := Builtin.List.listItems _) ?_
    unfold Builtin.List.listItems
    refine wpAny_bind (wpAny_seqItems gr rfl (wpAny_pure ?_))
    refine tail _ _ rfl fun s' e => ?_
    subst e
    exact ⟨.none, rfl, wpAny_pure fin⟩
  · refine wpAny_bind (m := Builtin.List.listAllItems _ _) ?_
    unfold Builtin.List.listAllItems
    refine wpAny_bind (wpAny_typeOf (T := "list") ⟨_, gr, rfl⟩ ?_)
    rw [if_pos (by decide)]
    unfold Builtin.List.listItems
    refine wpAny_bind (wpAny_seqItems gr rfl (wpAny_pure ?_))
    try refine wpAny_pure ?_
    refine tail _ _ rfl fun s' e => ?_
    subst e
    exact ⟨.none, rfl, wpAny_pure fin⟩
end
end PartA9

section PartA10
open PySem PySem.W PyProof.Rows PySem.Calls
open AutoSeq1 (wpAny_loadPart')
set_option maxRecDepth 100000
set_option linter.unusedVariables false

theorem fillsI_list : fillsInplaceSlot (.type "list") "add" true = pure false := by
  unfold fillsInplaceSlot
  show (typeLookup (.type "list") (dunderI "add") >>= fun fi => pure (fi.isSome && !isSeqSlot fi)) = pure false
  rw [PySem.F.slot_list_iadd.lookup]
  have e : isSeqSlot (some (.builtin "list.__iadd__")) = true := by decide +kernel
  simp only [pure_bind, e]; rfl
theorem seqI_list : seqSlot? (.type "list") (dunderI "add") = pure (some (.builtin "list.__iadd__")) := PyProof.Rows.seqSlot_of PySem.F.slot_list_iadd.lookup (by decide +kernel)
theorem radd_list : typeLookup (.type "list") (dunderR "add") = pure none := by rw [typeLookup_type, builtinLookup_eq_fast]; kernel_rfl
theorem fills_list : fillsNumberSlot (.type "list") "add" = pure false := PyProof.Rows.fillsNumberSlot_seq PySem.F.slot_list_add.lookup (by decide +kernel) radd_list rfl

-- list(reversed(xs))
theorem nolen_rv : typeLookup (.type "list_reverseiterator") "__len__" = pure none := by rw [typeLookup_type, builtinLookup_eq_fast]; kernel_rfl
theorem hint_rv : typeLookup (.type "list_reverseiterator") "__length_hint__" = pure (some (.builtin "list_reverseiterator.__length_hint__")) := by rw [typeLookup_type, builtinLookup_eq_fast]; kernel_rfl
section
variable {b : Base} {A : Around} {F : Fs} {L : Addr} {α β γ : Type} {σ : Sg} {env : Env}

theorem St.to {s s' : Shared} (x : St b F L σ s) (hk : ∀ y o, s.heap.get? y = some o → s'.heap.get? y = some o) (hg : s'.gens = s.gens) (ho : s'.os = s.os) : St b F L σ s' := by
  have y := x.grow hk
  exact ⟨y.ns, y.fr, y.nd, y.keep, y.cl, y.offL, y.offF, y.offC, by rw [hg]; exact x.gens, ho.trans x.os⟩

theorem w_iaddL {l r : Addr} {xs ys : List Value} {Q : Value → Sg → Prop} (hl : σ.at_ l = some (.lst xs)) (hr : σ.at_ r = some (.lst ys)) (hz : xs.length + ys.length ≤ 2 ^ 20) (h : Q (.ref l) (σ.put l (.lst (xs ++ ys)))) :
    W b A F L (inplaceOp .Add (.ref l) (.ref r)) σ Q := fun s E z => by
  obtain ⟨n, gl⟩ := z.isL hl
  have gl : s.heap.get? l = some (lstObj xs n) := gl
  obtain ⟨m, gr⟩ := z.isL hr
  have gr : s.heap.get? r = some (lstObj ys m) := gr
  have hT : s.TypeIs (.ref l) "list" := ⟨_, gl, rfl⟩
  unfold inplaceOp
  refine wpAny_holding ?_
  refine wpAny_bind (wpAny_typeOf hT (wpAny_bind (wpAny_of_eq fillsI_list ?_)))
  rw [if_neg Bool.false_ne_true]
  refine wpAny_bind (binaryOp1_none (nm := "add") hT ⟨_, gr, rfl⟩ fills_list ?_)
  refine wpAny_bind (wpAny_of_eq seqI_list ?_)
  refine wpAny_bind (wpAny_rule ?_)
  refine call_meets PySem.F.slot_list_iadd hT PySem.F.entry_list_iadd (PySem.F.args_list_iadd_2 _ _) (PySem.AutoSeq1.list___iadd___list_list_0 l xs.toArray n r ys.toArray m ?_ ?_ ?_) ⟨gl, gr, ?_⟩
  · unfold Builtin.List.listTooLong; rw [sizeLine_eq]; simp; omega
  · rw [sizeLine_eq]; simp; omega
  · rw [sizeLine_eq]; simp; omega
  · exact ⟨_, z.change (c := .lst (xs ++ ys)) hl (Heap.SameBut.update ..) (upd_lst gl (by simp)), h⟩

theorem call_list_rev {s : Shared} {E : Value → Shared → Prop} {Q : Value → Shared → Prop} {I l : Addr} {items : Array Value} (hh : A.handled = none) (hit : s.heap.IsRevIter I l ((items.size : Int) - 1)) (hl : s.heap.IsList l items) (hz : items.size ≤ sizeLine)
    (hQ : ∀ s' acc' c', (∀ b o, b ≠ I → s.heap.get? b = some o → s'.heap.get? b = some o) → s'.gens = s.gens → s'.os = s.os →
      s'.heap.get? s.heap.objs.size = some { cls := .type "list", dict := none, data := .seq acc' c', slots := #[] } → ItemsOf (fun i v => items[items.size - 1 - i]? = some v) acc' items.size → Q (.ref s.heap.objs.size) s') :
    wpAny (model P b.w) A (call (.type "list") [.ref I]) Q E s := by
  have hne : l ≠ I := fun e => by
    obtain ⟨o, g, c, _⟩ := hit; obtain ⟨o', g', c', _⟩ := hl
    rw [e, g] at g'; cases g'; rw [c] at c'; exact absurd c' (by simp)
  have Wk := (Walks.listRev (prog := P) (w := b.w) (A := A.in1.in1) hh I l hne items).toS
  obtain ⟨oI, gI, _⟩ := id hit
  obtain ⟨ol, gl, _⟩ := id hl
  have hSI : s.heap.objs.size ≠ I := fun e => Nat.lt_irrefl _ (e ▸ Heap.lt_size gI)
  have hSl : s.heap.objs.size ≠ l := fun e => Nat.lt_irrefl _ (e ▸ Heap.lt_size gl)
  have hSf : s.heap.objs.size ∉ [I, l] := fun hm => by simp at hm; rcases hm with e | e; exact hSI e; exact hSl e
  refine callType_codes (Q₁ := fun obj s₁ => obj = .ref s.heap.objs.size ∧ s₁ = { s with heap := s.heap.push { cls := .type "list", data := .seq #[] } }) PySem.F.called_list (PySem.F.typeCall_list_1 _) PySem.F.entry_list_init
    (code_list_new _ ⟨rfl, rfl⟩) fun obj s₁ h₁ => ?_
  obtain ⟨rfl, rfl⟩ := h₁
  have hS : (s.heap.push { cls := .type "list", data := .seq #[] }).get? s.heap.objs.size = some { cls := .type "list", data := .seq #[] } := Heap.get?_push_size _ rfl
  refine ⟨⟨_, hS, rfl⟩, PySem.F.args_list_init_2 _ _, ?_⟩
  show wpAny _ _ (do let old ← Builtin.List.listItems (.ref s.heap.objs.size); Builtin.List.listUpdate (.ref s.heap.objs.size) (fun _ => #[]); letGo old.toList.reverse; Builtin.List.listExtendWith (.ref s.heap.objs.size) (.ref I) .none) _ _ _
  refine wpAny_bind ?_
  unfold Builtin.List.listItems
  refine wpAny_bind (wpAny_seqItems hS rfl (wpAny_pure ?_))
  show wpAny _ _ (updateSeq s.heap.objs.size (fun _ => #[]) >>= fun _ => letGo (#[] : Array Value).toList.reverse >>= fun _ => Builtin.List.listExtendWith (.ref s.heap.objs.size) (.ref I) .none) _ _ _
  refine wpAny_bind (wpAny_updateSeq hS rfl ?_)
  have hS₂ := Heap.get?_update_self (Obj.mapSeq (fun _ => (#[] : Array Value))) hS rfl
  have oth : ∀ b o, b ≠ s.heap.objs.size → s.heap.get? b = some o → ((s.heap.push { cls := .type "list", data := .seq #[] }).update s.heap.objs.size (Obj.mapSeq (fun _ => (#[] : Array Value)))).get? b = some o :=
    fun b o hb e => (Heap.get?_update_other _ _ (Ne.symm hb)).trans (Heap.get?_push_of_some _ e)
  refine wpAny_bind (wpAny_letGo ?_)
  have hit₂ := hit.at fun o e => oth I o (Ne.symm hSI) e
  have hl₂ := hl.at fun o e => oth l o (Ne.symm hSl) e
  unfold Builtin.List.listExtendWith
  refine wpAny_bind (wpAny_typeOf (Heap.IsRevIter.typeIs (s := { s with heap := _ }) hit₂) ?_)
  have h1 : Builtin.List.listSameRef (.ref s.heap.objs.size) (.ref I) = false := by simp [Builtin.List.listSameRef, hSI]
  rw [if_neg (by rw [h1]; decide)]
  refine wpAny_bind (wpAny_pyIter_revIter hit₂ ?_)
  refine wpAny_bind (wpAny_holding ?_)
  unfold Builtin.List.listLengthHint
  refine wpAny_bind (wpAny_specialOf (Heap.IsRevIter.typeIs (s := { s with heap := _ }) hit₂) nolen_rv ?_)
  show wpAny _ _ (specialOf (Value.ref I) (Str.ofString "__length_hint__") >>= _) _ _ _
  refine wpAny_bind (wpAny_specialOf (Heap.IsRevIter.typeIs (s := { s with heap := _ }) hit₂) hint_rv ?_)
  (generalize hid : ("list_reverseiterator.__length_hint__" : String) = id0; (fail_if_success (clear hid id0)); wp_delta; rw [show splitId id0 = some ("list_reverseiterator", "__length_hint__") from by subst hid; decide +kernel]; subst hid)
  refine wpAny_bind (wpAny_isInstance (b := true) (Heap.IsRevIter.typeIs (s := { s with heap := _ }) hit₂) (by rw [isSubtype_type]; kernel_rfl) ?_)
  refine wpAny_pure ?_
  rw [if_neg (by decide)]
  refine wpAny_pure ⟨plainId_quiet PySem.F.plain_extend_loop _, codeAny_extend_loopS Wk hz _ hSf _ items.size 0 _ _ _ rfl (Nat.zero_le _) ⟨Nat.zero_le _, by simpa using hit₂, hl₂⟩ hS₂ (ItemsOf.nil _) fun s' acc' c' hm hS' hacc => ?_⟩
  refine ⟨rfl, hQ s' acc' c' (fun b o hb e => ?_) hm.gens hm.os hS' hacc⟩
  have hbS : b ≠ s.heap.objs.size := Nat.ne_of_lt (Heap.lt_size e)
  exact hm.heap b o (by simp; exact ⟨hbS, hb⟩) (oth b o hbS e)

theorem w_listRev {l a : Addr} {xs : List Value} {Q : Value → Sg → Prop} (hh : A.handled = none) (hl : σ.at_ l = some (.lst xs)) (ha : σ.at_ a = some (.obj (revObj l ((xs.length : Int) - 1)))) (hz : xs.length ≤ sizeLine)
    (h : ∀ n, (σ.del a).at_ n = none → Q (.ref n) ((σ.del a).put n (.lst xs.reverse))) : W b A F L (call (.type "list") [.ref a]) σ Q := fun s E z => by
  have g : s.heap.get? a = some (revObj l ((xs.length : Int) - 1)) := z.cl _ _ ha
  refine call_list_rev (items := xs.toArray) hh ⟨_, g, rfl, by simp [revObj]⟩ (z.isList hl) (by simpa using hz) fun s' acc' c' hk hg ho hS hI => ?_
  have e : acc' = xs.reverse.toArray := by
    apply Array.ext
    · rw [hI.1]; simp
    · intro i h1 h2
      have := hI.2 i acc'[i] (by simp [h1])
      simp at this h2 ⊢
      have h3 : xs.length - 1 - i < xs.length := by omega
      rw [List.getElem?_eq_getElem h3] at this
      exact (Option.some.inj this).symm
  subst e
  have z1 := (z.hide ha).alloc (o := lstObj xs.reverse c') (c := .lst xs.reverse) ⟨c', Heap.get?_push_size _ rfl⟩
  have z2 := z1.2.endF (h' := s'.heap) fun y o hn e => by
    by_cases q : y = s.heap.objs.size
    · subst q
      rw [Heap.get?_push_size _ rfl] at e
      cases e
      exact hS
    · have : s.heap.get? y = some o := by
        rw [Heap.get?_push_ne _ _ _ q] at e; exact e
      exact hk y o hn this
  exact ⟨_, z2.to (fun _ _ e => e) hg ho, h _ z1.1⟩
end
end PartA10

section PartA11
open PySem PySem.W PyProof.Rows PySem.Calls
open AutoSeq1 (wpAny_loadPart')
open MeetsSeq3 (plain_eq_loop entry_eq_loop)
set_option maxRecDepth 100000
set_option linter.unusedVariables false

section
variable {b : Base} {A : Around} {F : Fs} {L : Addr} {α β γ : Type} {σ : Sg} {env : Env}

def ESt (σ σ' : Sg) : Prop := Ext σ σ' ∧ σ'.m = σ.m
theorem ESt.rfl {σ : Sg} : ESt σ σ := ⟨Ext.rfl, by rfl⟩
theorem ESt.trans {σ τ υ : Sg} (x : ESt σ τ) (y : ESt τ υ) : ESt σ υ := ⟨x.1.trans y.1, y.2.trans x.2⟩

theorem eqLoop {l r : Addr} {xs ys : List Value} {e : Nat → Bool} {σ₀ : Sg} (hsz : xs.length = ys.length)
    (step : ∀ i x y σ, xs[i]? = some x → ys[i]? = some y → ESt σ₀ σ → W b A.in1 F L (eqBool x y) σ fun t σ' => t = e i ∧ ESt σ₀ σ')
    (hl : σ₀.at_ l = some (.lst xs)) (hr : σ₀.at_ r = some (.lst ys)) (R : Result → Shared → Prop) (k : Nat) :
    ∀ i : Nat, xs.length - i = k → ∀ σ s, St b F L σ s → ESt σ₀ σ → (∀ σ' s', St b F L σ' s' → ESt σ₀ σ' → R (.ok (.ret (.bool (((List.range xs.length).drop i).all e)))) s') →
    wpAny (model P b.w) A.in1 (Builtin.«list.__eq__.loop» ⟨[.ref l, .ref r, rawInt i, rawInt 2], []⟩)
      (fun fin s' => match fin with | .done f => R (.ok f) s' | .again c' => c'.quiet = true ∧ codeAny (model P b.w) A c' R s') (fun e s' => R (.error e) s') s := by
  induction k with
  | zero =>
    intro i hk σ s z hE h
    obtain ⟨n, gl⟩ := z.isL (hE.1.at_ _ _ hl)
    obtain ⟨n2, gr⟩ := z.isL (hE.1.at_ _ _ hr)
    have h := h _ _ z hE
    obtain ⟨hp, g, d, tk, os⟩ := s
    wp_walk using wpAny_loadPart' gl, wpAny_loadPart' gr
    have hi1 : xs.toArray[((i : Nat) : Int).toNat]? = none := by simp; omega
    have hi2 : ys.toArray[((i : Nat) : Int).toNat]? = none := by simp; omega
    have hd : (List.range xs.length).drop i = [] := by simp; omega
    rw [hd] at h
    rw [hi1, hi2]
    wp_walk using wpAny_loadPart' gl, wpAny_loadPart' gr
    show R (.ok (.ret (.bool (xs.toArray.size == ys.toArray.size)))) _
    simpa [hsz] using h
  | succ k ih =>
    intro i hk σ s z hE h
    obtain ⟨n, gl⟩ := z.isL (hE.1.at_ _ _ hl)
    obtain ⟨n2, gr⟩ := z.isL (hE.1.at_ _ _ hr)
    obtain ⟨hp, g, d, tk, os⟩ := s
    wp_walk using wpAny_loadPart' gl, wpAny_loadPart' gr
    have hlt : i < xs.length := by omega
    have hlt2 : i < ys.length := by omega
    have hi1 : xs.toArray[((i : Nat) : Int).toNat]? = some xs[i] := by simp [hlt]
    have hi2 : ys.toArray[((i : Nat) : Int).toNat]? = some ys[i] := by simp [hlt2]
    have hd : (List.range xs.length).drop i = i :: (List.range xs.length).drop (i + 1) := by simp [List.drop_eq_getElem_cons, hlt]
    have hc : ((i : Int) + 1) = ((i + 1 : Nat) : Int) := by push_cast; rfl
    rw [hd] at h
    simp only [List.all_cons] at h
    rw [hi1, hi2]
    refine wpAny_bind (wpAny_mono (step i _ _ σ (List.getElem?_eq_getElem hlt) (List.getElem?_eq_getElem hlt2) hE _ _ z) (fun t s' ⟨σ', z', ht, hE'⟩ => ?_) fun _ _ e => e)
    cases hb' : e i with
    | true =>
      rw [hb'] at h ht
      subst ht
      obtain ⟨hp, g, d, tk, os⟩ := s'
      wp_walk
      rw [hc]
      exact ⟨plainId_quiet plain_eq_loop _, codeAny_builtin entry_eq_loop (by
        rw [Around.under_plainId plain_eq_loop _]
        exact ih (i + 1) (by omega) σ' _ z' hE' (by simpa using h))⟩
    | false =>
      rw [hb'] at h ht
      subst ht
      obtain ⟨n, gl⟩ := z'.isL (hE'.1.at_ _ _ hl)
      obtain ⟨n2, gr⟩ := z'.isL (hE'.1.at_ _ _ hr)
      have h := h _ _ z' hE'
      obtain ⟨hp, g, d, tk, os⟩ := s'
      wp_walk using wpAny_loadPart' gl, wpAny_loadPart' gr
      rw [hi1, hi2]
      wp_walk
      simpa using h

/-- xs == ys: lists of what may call code of the text -/
theorem w_eqL {l r : Addr} {xs ys : List Value} {e : Nat → Bool} {Q : Value → Sg → Prop} (hu : A.units < cLine) (hl : σ.at_ l = some (.lst xs)) (hr : σ.at_ r = some (.lst ys))
    (hd : xs.length ≠ ys.length → Q (.bool false) σ)
    (step : xs.length = ys.length → ∀ i x y σ', xs[i]? = some x → ys[i]? = some y → ESt σ σ' → W b A.in1 F L (eqBool x y) σ' fun t σ' => t = e i ∧ ESt σ σ')
    (h : xs.length = ys.length → ∀ σ', ESt σ σ' → Q (.bool ((List.range xs.length).all e)) σ') : W b A F L (compareOp .Eq (.ref l) (.ref r)) σ Q := fun s E z => by
  by_cases hsz : xs.length = ys.length
  · obtain ⟨n, gl⟩ := z.isL hl
    obtain ⟨n2, gr⟩ := z.isL hr
    refine wpAny_richCompare_same_room (op := .Eq) ⟨_, gl, rfl⟩ ⟨_, gr, rfl⟩ PySem.F.slot_list_eq ?_ hu
    refine wpAny_call (codeAny_call_builtin PySem.F.slot_list_eq.plain PySem.F.entry_list_eq (PySem.F.slot_list_eq.check _ _ _ _ _ _ _ _ ⟨_, gl, rfl⟩ (PySem.F.args_list_eq_2 _ _) ?_))
    have key := eqLoop (A := A) hsz (step hsz) hl hr (wants (fun v s' => v ≠ .notImplemented ∧ ∃ σ', St b F L σ' s' ∧ Q v σ') E) xs.length 0 (by omega) σ s z ESt.rfl fun σ' s' z' hE => ⟨(fun x => nomatch x), σ', z', by simpa using h hsz σ' hE⟩
    obtain ⟨hp, g, d, tk, os⟩ := s
    have f3 := AutoSeq1.sub_list_list
    have hne : ¬ (xs.toArray.size != ys.toArray.size) = true := by simp [hsz]
    wp_walk using wpAny_loadPart' gl, wpAny_loadPart' gr
    exact ⟨plainId_quiet plain_eq_loop _, codeAny_builtin entry_eq_loop (by
      rw [Around.under_plainId plain_eq_loop _]
      exact key)⟩
  · exact SeqAt.eq_list_lengthsAt (z.isList hl) (z.isList hr) (by simpa using hsz) hu ⟨σ, z, hd hsz⟩
end
end PartA11

section PartA12
open PySem PySem.W PyProof.Rows PySem.Calls
set_option maxRecDepth 100000
set_option linter.unusedVariables false

/-- a function of the text, by its place -/
abbrev FnAt (f : Addr) := { fd : FuncData // ∀ p, (Mine.hd.heap_39 p).lookup f = some { cls := .type "function", data := .func fd } }
def fTokInit : FnAt 28 := ⟨_, fun _ => rfl⟩
def fTokEq : FnAt 35 := ⟨_, fun _ => rfl⟩
def fInit : FnAt 64 := ⟨_, fun _ => rfl⟩
def fEq : FnAt 71 := ⟨_, fun _ => rfl⟩
def fNe : FnAt 78 := ⟨_, fun _ => rfl⟩
def fIter : FnAt 83 := ⟨_, fun _ => rfl⟩
def fTop : FnAt 90 := ⟨_, fun _ => rfl⟩
def fPred : FnAt 97 := ⟨_, fun _ => rfl⟩
def fData : FnAt 104 := ⟨_, fun _ => rfl⟩
def fToken : FnAt 111 := ⟨_, fun _ => rfl⟩
def fExpand : FnAt 118 := ⟨_, fun _ => rfl⟩
def fScan : FnAt 125 := ⟨_, fun _ => rfl⟩
def fCopy : FnAt 132 := ⟨_, fun _ => rfl⟩
def fSet : FnAt 139 := ⟨_, fun _ => rfl⟩
def fBuilt : FnAt 153 := ⟨_, fun _ => rfl⟩
def fDown : FnAt 160 := ⟨_, fun _ => rfl⟩
def fTokens : FnAt 167 := ⟨_, fun _ => rfl⟩
def fAlike : FnAt 174 := ⟨_, fun _ => rfl⟩
def fOnce : FnAt 179 := ⟨_, fun _ => rfl⟩
def fOpened : FnAt 186 := ⟨_, fun _ => rfl⟩
def fPut : FnAt 193 := ⟨_, fun _ => rfl⟩
def fEqual : FnAt 200 := ⟨_, fun _ => rfl⟩
def fLaw : FnAt 205 := ⟨_, fun _ => rfl⟩

theorem cls142 (b : Base) : Cls b 142 where
  get := by kernel_rfl
  dict := by kernel_rfl
  set := by kernel_rfl
  over := by kernel_rfl
  make := by kernel_rfl
  cls := by kernel_rfl
  obj := by kernel_rfl
  self := by kernel_rfl
theorem cls45 (b : Base) : Cls b 45 where
  get := by kernel_rfl
  dict := by kernel_rfl
  set := by kernel_rfl
  over := by kernel_rfl
  make := by kernel_rfl
  cls := by kernel_rfl
  obj := by kernel_rfl
  self := by kernel_rfl
theorem tokNotTree (b : Base) : kin_not (Kb b) 45 142 = true := by kernel_rfl
theorem treeNotTok (b : Base) : kin_not (Kb b) 142 45 = true := by kernel_rfl
theorem clsGet (b : Base) : specialIn (Kb b) (.builtin "object.__class__") "__get__" = some (some (.builtin "getset_descriptor.__get__")) := by kernel_rfl
theorem clsTakes (b : Base) : takesIn (Kb b) (.builtin "object.__class__") = some true := by kernel_rfl

/-- a name's value -/
theorem getL_same {σ : Sg} {x : Str} {v : Value} : (σ.setL x v).m x = some v := by simp [Sg.setL]
theorem getL_ne {σ : Sg} {x y : Str} {v : Value} (h : (y == x) = false) : (σ.setL x v).m y = σ.m y := by
  have : ¬ y = x := by simpa using h
  simp [Sg.setL, this]
end PartA12

section PartA13
open PySem PySem.W PyProof.Rows PySem.Calls
set_option maxRecDepth 100000
set_option linter.unusedVariables false

section
variable {b : Base} {A : Around} {F : Fs} {L : Addr} {α β γ : Type} {σ : Sg} {env : Env}

-- statements, the rest behind them
theorem w_consA {x pos' value pos rest} {Q : Flow → Sg → Prop} (h : W b A F L (eval value env) σ fun v σ' => W b A F L (storeName env x v) σ' fun _ σ'' => W b A F L (execs rest env) σ'' Q)
    (hs : swapsWith value (some (.Name x pos')) pos.line env = pure false := by with_unfolding_all rfl) : W b A F L (execs (.Assign [.Name x pos'] value pos :: rest) env) σ Q :=
  w_cons (w_assign h hs)
theorem w_consE {e pos rest} {Q : Flow → Sg → Prop} (h : W b A F L (eval e env) σ fun v σ' => (∀ a, v ≠ .ref a) ∧ W b A F L (execs rest env) σ' Q)
    (hi : interactive env = false := by with_unfolding_all rfl) (hs : swapsWith e none pos.line env = pure false := by with_unfolding_all rfl) : W b A F L (execs (.Expr e pos :: rest) env) σ Q :=
  w_cons (w_expr h hi hs)
def thenK (k : Sg → Prop) (Q : Flow → Sg → Prop) : Flow → Sg → Prop := fun f σ => match f with
  | .next => k σ
  | f => Q f σ
theorem w_consIf {test body pos rest} {Q : Flow → Sg → Prop} (h : W b A F L (isTrue test env (eval test env)) σ fun t σ' => (t = true → W b A F L (execs body env) σ' (thenK (fun σ'' => W b A F L (execs rest env) σ'' Q) Q)) ∧ (t = false → W b A F L (execs rest env) σ' Q)) :
    W b A F L (execs (.If test body [] pos :: rest) env) σ Q :=
  w_cons (w_if (W.mono h fun t σ' q => ⟨fun e => q.1 e, fun e => w_nil (q.2 e)⟩))
theorem w_consElse {test body els pos rest} {Q : Flow → Sg → Prop} (h : W b A F L (isTrue test env (eval test env)) σ fun t σ' => (t = true → W b A F L (execs body env) σ' (thenK (fun σ'' => W b A F L (execs rest env) σ'' Q) Q)) ∧
      (t = false → W b A F L (execs els env) σ' (thenK (fun σ'' => W b A F L (execs rest env) σ'' Q) Q))) :
    W b A F L (execs (.If test body els pos :: rest) env) σ Q :=
  w_cons (w_if (W.mono h fun t σ' q => ⟨fun e => q.1 e, fun e => q.2 e⟩))
theorem w_consRet {e pos rest} {Q : Flow → Sg → Prop} (h : W b A F L (eval e env) σ fun v => Q (.ret v)) : W b A F L (execs (.Return (some e) pos :: rest) env) σ Q := w_cons (w_ret h)
theorem w_consBrk {pos rest} {Q : Flow → Sg → Prop} (h : Q .brk σ) : W b A F L (execs (.Break pos :: rest) env) σ Q := w_cons (w_brk h)
theorem w_consCont {pos rest} {Q : Flow → Sg → Prop} (h : Q .cont σ) : W b A F L (execs (.Continue pos :: rest) env) σ Q := w_cons (w_cont h)
/-- how a loop's turn may end -/
def turnK (again : Sg → Prop) (after : Sg → Prop) (Q : Flow → Sg → Prop) : Flow → Sg → Prop := fun f σ => match f with
  | .next | .cont => again σ
  | .brk => after σ
  | .ret v => Q (.ret v) σ
theorem w_consFor {x : Str} {px : Pos} {iter body pos rest} {Q : Flow → Sg → Prop}
    (h : W b A F L (eval iter env) σ fun xv σ₁ => Iter b A F L xv σ₁ fun it Fi σ₂ => ∃ (I : Nat → Fs → Sg → Prop) (n : Nat), I n Fi σ₂ ∧
      ∀ n Fi σ, I n Fi σ → Next b A F L it Fi σ (fun σ' => W b A F L (execs rest env) σ' Q)
        (fun v Fi' σ' => NoGen Fi' ∧ W b A (Fi' ++ F) L (storeName env x v) σ' fun _ σ₂ => W b A (Fi' ++ F) L (execs body env) σ₂ (turnK (fun σ₃ => ∃ m, m < n ∧ I m Fi' σ₃) (fun σ₃ => W b A F L (execs rest env) σ₃ Q) Q)))
    (hs : ∀ x, foldedSetIterable iter env x = pure x := by intro _; with_unfolding_all rfl) : W b A F L (execs (.For (.Name x px) iter body [] pos :: rest) env) σ Q := by
  refine w_cons (w_forAny (W.mono h fun xv σ₁ q s E y => wpAny_mono (q s E y) (fun it s₂ ⟨Fi, σ₂, y₂, I, n, hI, step⟩ => ⟨Fi, σ₂, y₂, fun _ => rfl, I, n, hI, fun n Fi σ hI => ?_⟩) fun _ _ e => e) hs)
  refine Next.mono (step n Fi σ hI) (fun σ' q => w_nil q) fun v Fi' σ' ⟨hn, q⟩ => ?_
  refine w_assignN (W.mono q fun _ σ₂ q => W.mono q fun fl σ₃ q => ?_)
  cases fl with
  | next => exact q
  | cont => exact q
  | brk => exact ⟨hn, q⟩
  | ret v => exact ⟨hn, q⟩

/-- over a list that stays as it is -/
theorem w_forE {x : Str} {px : Pos} {iter body pos rest} {Q : Flow → Sg → Prop} (hh : A.handled = none) (J : Nat → Sg → Prop)
    (h : W b A F L (eval iter env) σ fun xv σ₁ => ∃ l xs, xv = .ref l ∧ J 0 σ₁ ∧ (∀ i τ, J i τ → τ.at_ l = some (.lst xs)) ∧
      (∀ i v τ Fa, J i τ → xs[i]? = some v → W b A (Fa ++ F) L (storeName env x v) τ fun _ τ' => W b A (Fa ++ F) L (execs body env) τ' (turnK (J (i + 1)) (fun σ₃ => W b A F L (execs rest env) σ₃ Q) Q)) ∧
      (∀ τ, J xs.length τ → W b A F L (execs rest env) τ Q))
    (hs : ∀ x, foldedSetIterable iter env x = pure x := by intro _; with_unfolding_all rfl) : W b A F L (execs (.For (.Name x px) iter body [] pos :: rest) env) σ Q := by
  refine w_consFor (W.mono h fun xv σ₁ ⟨l, xs, e, h0, hl, step, fin⟩ => ?_) hs
  subst e
  refine iter_list (hl 0 _ h0) fun a => ⟨fun n Fi τ => ∃ i, Fi = [(a, .cl (itObj l i))] ∧ i ≤ xs.length ∧ n = xs.length - i ∧ J i τ, xs.length, ⟨0, rfl, Nat.zero_le _, rfl, h0⟩, ?_⟩
  rintro n _ τ ⟨i, rfl, hi, rfl, hJ⟩
  refine next_list hh (hl i _ hJ) (fun hx => ?_) fun v hv => ?_
  · have : i = xs.length := by have := List.getElem?_eq_none_iff.mp hx; omega
    subst this
    exact fin _ hJ
  · have hlt : i < xs.length := (List.getElem?_eq_some_iff.mp hv).1
    refine ⟨.one, W.mono (step i v τ [(a, .cl (itObj l (i + 1)))] hJ hv) fun _ τ' q => W.mono q fun fl σ₃ q => ?_⟩
    cases fl with
    | next => exact ⟨_, by omega, i + 1, rfl, hlt, rfl, q⟩
    | cont => exact ⟨_, by omega, i + 1, rfl, hlt, rfl, q⟩
    | brk => exact q
    | ret v => exact q

-- calls
theorem w_call0 {id : Str} {p pos : Pos} {args : List Expr} {Q : Value → Sg → Prop} (G : Glb b) {f : Addr} (e : nsIn (Kb b) mainGlobals id = some (some (.ref f)))
    (h : W b A F L (spliced (backTo pos (starEach args env))) σ fun vs σ₁ => W b A F L (call (.ref f) vs) σ₁ Q) (hp : (backTo pos (starEach args env)).any (·.1) = false := by with_unfolding_all rfl) (hk : keepIn (Kb b) (.ref f) = true := by kernel_rfl)
    (hg : env.globals = mainGlobals := by with_unfolding_all rfl) (hsk : env.scope.kind = .function := by with_unfolding_all rfl)
    (hx : env.kindOf id = some .globalImplicit := by with_unfolding_all rfl) (hd : (id == ("__debug__" : Str)) = false := by decide) : W b A F L (eval (.Call (.Name id p) args [] pos) env) σ Q :=
  w_callN (w_glob G e (w_cwK G hk h hp) hg hsk hx hd)
theorem w_callB {id : Str} {n : String} {p pos : Pos} {args : List Expr} {Q : Value → Sg → Prop} (G : Glb b) (hv : bootBuiltins id = some (.builtin n)) (e : nsIn (Kb b) mainGlobals id = some none)
    (h : W b A F L (spliced (backTo pos (starEach args env))) σ fun vs σ₁ => W b A F L (call (.builtin n) vs) σ₁ Q) (hp : (backTo pos (starEach args env)).any (·.1) = false := by with_unfolding_all rfl)
    (hn : id ≠ ("__name__" : Str) := by decide) (hg : env.globals = mainGlobals := by with_unfolding_all rfl)
    (hb : env.builtins = builtinsNs := by with_unfolding_all rfl) (hk : env.scope.kind = .function := by with_unfolding_all rfl)
    (hx : env.kindOf id = some .globalImplicit := by with_unfolding_all rfl) (hd : (id == ("__debug__" : Str)) = false := by decide) : W b A F L (eval (.Call (.Name id p) args [] pos) env) σ Q :=
  w_callN (w_bui G e hv (w_cwB h hp) hn hg hb hk hx hd)
theorem w_callT {id : Str} {n : String} {p pos : Pos} {args : List Expr} {Q : Value → Sg → Prop} (G : Glb b) (hv : bootBuiltins id = some (.type n)) (e : nsIn (Kb b) mainGlobals id = some none)
    (h : W b A F L (spliced (backTo pos (starEach args env))) σ fun vs σ₁ => W b A F L (call (.type n) vs) σ₁ Q) (hp : (backTo pos (starEach args env)).any (·.1) = false := by with_unfolding_all rfl)
    (hn : id ≠ ("__name__" : Str) := by decide) (hg : env.globals = mainGlobals := by with_unfolding_all rfl)
    (hb : env.builtins = builtinsNs := by with_unfolding_all rfl) (hk : env.scope.kind = .function := by with_unfolding_all rfl)
    (hx : env.kindOf id = some .globalImplicit := by with_unfolding_all rfl) (hd : (id == ("__debug__" : Str)) = false := by decide) : W b A F L (eval (.Call (.Name id p) args [] pos) env) σ Q :=
  w_callN (w_bui G e hv (w_cwT h hp) hn hg hb hk hx hd)

end

def Sg.setM (σ : Sg) (m : NsMap) : Sg := { σ with m := m }
theorem setMA {σ : Sg} {m : NsMap} {y : Addr} {o : Option Cl} (h : σ.at_ y = o) : (σ.setM m).at_ y = o := h
theorem setMM {σ : Sg} {m : NsMap} {x : Str} {v : Value} (h : m x = some v) : (σ.setM m).m x = some v := h
theorem Ext.setM {σ τ : Sg} {m : NsMap} (x : Ext σ τ) : Ext σ (τ.setM m) := ⟨x.at_, x.gens⟩
theorem Ext.tr {σ τ υ : Sg} (y : Ext τ υ) (x : Ext σ τ) : Ext σ υ := x.trans y
theorem Ext.tr2 {σ τ υ : Sg} (y : ESt τ υ) (x : Ext σ τ) : Ext σ υ := x.trans y.1
theorem viaE {σ τ : Sg} {x : Str} {v : Value} (e : ESt τ σ) (h : τ.m x = some v) : σ.m x = some v := by rw [e.2]; exact h
theorem ESt.at_ {σ τ : Sg} (e : ESt τ σ) {y : Addr} {c : Cl} (h : τ.at_ y = some c) : σ.at_ y = some c := e.1.at_ _ _ h
theorem Ext.at' {σ τ : Sg} (e : Ext τ σ) {y : Addr} {c : Cl} (h : τ.at_ y = some c) : σ.at_ y = some c := e.at_ _ _ h
theorem getL_skip {σ : Sg} {x y : Str} {v v' : Value} (h : (y == x) = false) (k : σ.m y = some v) : (σ.setL x v').m y = some v := (getL_ne h).trans k
theorem putM {σ : Sg} {a : Addr} {c : Cl} {x : Str} {v : Value} (h : σ.m x = some v) : (σ.put a c).m x = some v := h
theorem delM {σ : Sg} {a : Addr} {x : Str} {v : Value} (h : σ.m x = some v) : (σ.del a).m x = some v := h
theorem viaM {σ τ : Sg} {x : Str} {v : Value} (e : σ.m = τ.m) (h : τ.m x = some v) : σ.m x = some v := by rw [e]; exact h
theorem putA_same {σ : Sg} {a : Addr} {c : Cl} : (σ.put a c).at_ a = some c := by simp [Sg.put]
theorem putA_ne {σ : Sg} {a y : Addr} {c : Cl} {o : Option Cl} (n : y ≠ a) (h : σ.at_ y = o) : (σ.put a c).at_ y = o := by simp [Sg.put, n, h]
theorem setA {σ : Sg} {x : Str} {v : Value} {y : Addr} {o : Option Cl} (h : σ.at_ y = o) : (σ.setL x v).at_ y = o := h
theorem putA_new {σ : Sg} {a y : Addr} {c c' : Cl} (n : σ.at_ a = none) (h : σ.at_ y = some c') : (σ.put a c).at_ y = some c' := putA_ne (fun e => by rw [e, n] at h; cases h) h

-- the things of the law
inductive Nd where
  | node (d l : Addr) (nm : Str) (ks : List Addr)
  | tok (d : Addr) (k v : Str)
def Nd.isN : Nd → Bool
  | .node .. => true
  | _ => false
def NdAt (σ : Sg) (a : Addr) : Nd → Prop
  | .node d l nm ks => (∃ t, Inst σ a 142 d [("data", .str nm t), ("children", .ref l), ("_meta", .none)]) ∧ σ.at_ l = some (.lst (ks.map .ref))
  | .tok d k v => ∃ t u, Inst σ a 45 d [("type", .str k t), ("value", .str v u)]
abbrev Gf := Addr → Option Nd
def Gr (σ : Sg) (G : Gf) : Prop := ∀ a nd, G a = some nd → NdAt σ a nd
theorem NdAt.ext {σ τ : Sg} {a : Addr} {nd : Nd} (x : NdAt σ a nd) (e : Ext σ τ) : NdAt τ a nd := by
  cases nd with
  | node d l nm ks => obtain ⟨⟨t, h1, h2⟩, h3⟩ := x; exact ⟨⟨t, e.at_ _ _ h1, e.at_ _ _ h2⟩, e.at_ _ _ h3⟩
  | tok d k v => obtain ⟨t, u, h1, h2⟩ := x; exact ⟨t, u, e.at_ _ _ h1, e.at_ _ _ h2⟩
section
variable {b : Base} {A : Around} {F : Fs} {L : Addr} {σ : Sg} {a d l : Addr} {nm k v : Str} {ks : List Addr} {ex : Bool}
theorem w_children {Q : Value → Sg → Prop} (G : Glb b) (h : NdAt σ a (.node d l nm ks)) (q : Q (.ref l) σ) : W b A F L (getAttr (.ref a) "children" ex) σ Q := by
  obtain ⟨⟨t, I⟩, hl⟩ := h
  exact w_getAttr (v := .ref l) G (cls142 b) I (by kernel_rfl) (by rfl) (by rfl) q
theorem w_data {Q : Value → Sg → Prop} (G : Glb b) (h : NdAt σ a (.node d l nm ks)) (q : ∀ t, Q (.str nm t) σ) : W b A F L (getAttr (.ref a) "data" ex) σ Q := by
  obtain ⟨⟨t, I⟩, hl⟩ := h
  exact w_getAttr (v := .str nm t) G (cls142 b) I (by kernel_rfl) (by rfl) (by rfl) (q t)
theorem w_type {Q : Value → Sg → Prop} (G : Glb b) (h : NdAt σ a (.tok d k v)) (q : ∀ t, Q (.str k t) σ) : W b A F L (getAttr (.ref a) "type" ex) σ Q := by
  obtain ⟨t, u, I⟩ := h
  exact w_getAttr (v := .str k t) G (cls45 b) I (by kernel_rfl) (by rfl) (by rfl) (q t)
theorem w_value {Q : Value → Sg → Prop} (G : Glb b) (h : NdAt σ a (.tok d k v)) (q : ∀ t, Q (.str v t) σ) : W b A F L (getAttr (.ref a) "value" ex) σ Q := by
  obtain ⟨t, u, I⟩ := h
  exact w_getAttr (v := .str v u) G (cls45 b) I (by kernel_rfl) (by rfl) (by rfl) (q u)
theorem w_isTree {nd : Nd} {Q : Value → Sg → Prop} (G : Glb b) (h : NdAt σ a nd) (q : Q (.bool nd.isN) σ) : W b A F L (call (.builtin "isinstance") [.ref a, .ref 142]) σ Q := by
  cases nd with
  | node d l nm ks => obtain ⟨⟨t, I⟩, hl⟩ := h; exact w_isin G (cls142 b) I q
  | tok d k v => obtain ⟨t, u, I⟩ := h; exact w_isnotin G (cls45 b) I (tokNotTree b) (clsGet b) (clsTakes b) q
theorem w_isTok {nd : Nd} {Q : Value → Sg → Prop} (G : Glb b) (h : NdAt σ a nd) (q : Q (.bool (!nd.isN)) σ) : W b A F L (call (.builtin "isinstance") [.ref a, .ref 45]) σ Q := by
  cases nd with
  | node d l nm ks => obtain ⟨⟨t, I⟩, hl⟩ := h; exact w_isnotin G (cls142 b) I (treeNotTok b) (clsGet b) (clsTakes b) q
  | tok d k v => obtain ⟨t, u, I⟩ := h; exact w_isin G (cls45 b) I q
/-- a method of a tree -/
theorem w_meth {name : Str} {f : Addr} {pl : Sem Bool} {Q : Value × List Value → Sg → Prop} (G : Glb b) (h : NdAt σ a (.node d l nm ks)) (hf : findIn (Kb b) (.ref 142) name = some (some (.ref f))) (ht : typeIn (Kb b) (.ref f) = some (.type "function"))
    (hn : (name == ("data" : Str)) = false ∧ (name == ("children" : Str)) = false ∧ (name == ("_meta" : Str)) = false) (q : Q (.ref f, [.ref a]) σ) : W b A F L (getMethod (.ref a) name pl) σ Q := by
  obtain ⟨⟨t, I⟩, hl⟩ := h
  refine w_getMethod G (cls142 b) I hf ht ?_ q
  simp only [List.lookup_cons, hn.1, hn.2.1, hn.2.2, List.lookup_nil]
end

theorem Gr.ext {σ τ : Sg} {G : Gf} (x : Gr σ G) (e : Ext σ τ) : Gr τ G := fun a nd h => (x a nd h).ext e

/-- the tree below a ends within n steps; every child stands -/
def Dp (G : Gf) : Nat → Addr → Prop
  | 0, a => ∃ d k v, G a = some (.tok d k v)
  | n + 1, a => match G a with
    | some (.node d l nm ks) => ∀ k ∈ ks, Dp G n k
    | some (.tok ..) => True
    | none => False
def isTree (G : Gf) (a : Addr) : Bool := match G a with
  | some (.node ..) => true
  | _ => false
/-- the trees below a, as they stand -/
def gdown (G : Gf) : Nat → Addr → List Addr
  | 0, _ => []
  | n + 1, a => match G a with
    | some (.node d l nm ks) => a :: ks.flatMap (gdown G n)
    | _ => []
end PartA13

section PartA14
open PySem PySem.W PyProof.Rows PySem.Calls
set_option maxRecDepth 100000
set_option maxHeartbeats 4000000
set_option linter.unusedVariables false

theorem thenK_next {k : Sg → Prop} {Q : Flow → Sg → Prop} {σ : Sg} (h : k σ) : thenK k Q .next σ := h
theorem thenK_brk {k : Sg → Prop} {Q : Flow → Sg → Prop} {σ : Sg} (h : Q .brk σ) : thenK k Q .brk σ := h
theorem thenK_cont {k : Sg → Prop} {Q : Flow → Sg → Prop} {σ : Sg} (h : Q .cont σ) : thenK k Q .cont σ := h
theorem thenK_ret {k : Sg → Prop} {Q : Flow → Sg → Prop} {σ : Sg} {v : Value} (h : Q (.ret v) σ) : thenK k Q (.ret v) σ := h
theorem turnK_next {k a : Sg → Prop} {Q : Flow → Sg → Prop} {σ : Sg} (h : k σ) : turnK k a Q .next σ := h
theorem turnK_cont {k a : Sg → Prop} {Q : Flow → Sg → Prop} {σ : Sg} (h : k σ) : turnK k a Q .cont σ := h
theorem turnK_brk {k a : Sg → Prop} {Q : Flow → Sg → Prop} {σ : Sg} (h : a σ) : turnK k a Q .brk σ := h
theorem turnK_ret {k a : Sg → Prop} {Q : Flow → Sg → Prop} {σ : Sg} {v : Value} (h : Q (.ret v) σ) : turnK k a Q (.ret v) σ := h
theorem boot_isi : bootBuiltins "isinstance" = some (.builtin "isinstance") := by decide +kernel
theorem boot_range : bootBuiltins "range" = some (.type "range") := by decide +kernel
theorem boot_str : bootBuiltins "str" = some (.type "str") := by decide +kernel
theorem boot_list : bootBuiltins "list" = some (.type "list") := by decide +kernel
theorem boot_rev : bootBuiltins "reversed" = some (.type "reversed") := by decide +kernel
theorem boot_filter : bootBuiltins "filter" = some (.type "filter") := by decide +kernel
theorem boot_min : bootBuiltins "min" = some (.builtin "min") := by decide +kernel
theorem boot_len : bootBuiltins "len" = some (.builtin "len") := by decide +kernel

theorem Rm.dummy : True := trivial
section
variable {b : Base} {A : Around} {F : Fs} {L : Addr} {σ : Sg} {env : Env}
theorem w_forRange {x : Str} {px : Pos} {iter body pos rest} {Q : Flow → Sg → Prop} (hh : A.handled = none) (N : Nat) (v0 c : Int) (J : Nat → Sg → Prop)
    (h : W b A F L (eval iter env) σ fun xv σ₁ => ∃ r y t u w, xv = .ref r ∧ σ₁.at_ r = some (.obj (rgObj (.int v0 t) (.int y u) (.int c w))) ∧ Builtin.Range.small v0 y c = true ∧ Builtin.Range.rangeSize v0 y c = N ∧ J 0 σ₁ ∧
      (∀ i t τ Fa, i < N → J i τ → W b A (Fa ++ F) L (storeName env x (.int (v0 + i * c) t)) τ fun _ τ' => W b A (Fa ++ F) L (execs body env) τ' (turnK (J (i + 1)) (fun σ₃ => W b A F L (execs rest env) σ₃ Q) Q)) ∧
      (∀ τ, J N τ → W b A F L (execs rest env) τ Q))
    (hs : ∀ x, foldedSetIterable iter env x = pure x := by intro _; with_unfolding_all rfl) : W b A F L (execs (.For (.Name x px) iter body [] pos :: rest) env) σ Q := by
  refine w_consFor (W.mono h fun xv σ₁ ⟨r, y, t, u, w, e, hr, hsm, hN, h0, step, fin⟩ => ?_) hs
  subst e
  refine iter_range hr hsm fun a => ⟨fun n Fi τ => ∃ i : Nat, Fi = [(a, .cl (.obj (rgIt (v0 + i * c) ((N : Int) - i) c)))] ∧ i ≤ N ∧ n = N - i ∧ J i τ, N, ⟨0, by rw [hN]; simp, Nat.zero_le _, rfl, h0⟩, ?_⟩
  rintro n _ τ ⟨i, rfl, hi, rfl, hJ⟩
  refine next_range hh (fun hx => ?_) fun t hx => ?_
  · have : i = N := by omega
    subst this
    exact fin _ hJ
  · refine ⟨.one, W.mono (step i t τ [(a, .cl (.obj (rgIt (v0 + i * c + c) ((N : Int) - i - 1) c)))] (by omega) hJ) fun _ τ' q => W.mono q fun fl σ₃ q => ?_⟩
    have e1 : v0 + (i : Int) * c + c = v0 + ((i + 1 : Nat) : Int) * c := by push_cast; rw [Int.add_mul, Int.one_mul, Int.add_assoc]
    have e2 : (N : Int) - i - 1 = (N : Int) - ((i + 1 : Nat) : Int) := by omega
    rw [e1, e2]
    cases fl with
    | next => exact ⟨_, by omega, i + 1, rfl, by omega, rfl, q⟩
    | cont => exact ⟨_, by omega, i + 1, rfl, by omega, rfl, q⟩
    | brk => exact q
    | ret v => exact q
/-- over a list that grows meanwhile -/
theorem w_forM {x : Str} {px : Pos} {iter body pos rest} {Q : Flow → Sg → Prop} (hh : A.handled = none) (N : Nat) (J : Nat → Sg → Prop)
    (h : W b A F L (eval iter env) σ fun xv σ₁ => ∃ l, xv = .ref l ∧ J 0 σ₁ ∧ ∀ i τ, J i τ → i ≤ N ∧ ∃ xs, τ.at_ l = some (.lst xs) ∧
      (∀ v Fa, xs[i]? = some v → W b A (Fa ++ F) L (storeName env x v) τ fun _ τ' => W b A (Fa ++ F) L (execs body env) τ' (turnK (J (i + 1)) (fun σ₃ => W b A F L (execs rest env) σ₃ Q) Q)) ∧
      (xs[i]? = none → W b A F L (execs rest env) τ Q))
    (hs : ∀ x, foldedSetIterable iter env x = pure x := by intro _; with_unfolding_all rfl) : W b A F L (execs (.For (.Name x px) iter body [] pos :: rest) env) σ Q := by
  refine w_consFor (W.mono h fun xv σ₁ ⟨l, e, h0, step⟩ => ?_) hs
  subst e
  obtain ⟨_, xs0, hl0, _⟩ := step 0 _ h0
  refine iter_list hl0 fun a => ⟨fun n Fi τ => ∃ i, Fi = [(a, .cl (itObj l i))] ∧ n = N + 1 - i ∧ J i τ, N + 1, ⟨0, rfl, rfl, h0⟩, ?_⟩
  rintro n _ τ ⟨i, rfl, rfl, hJ⟩
  obtain ⟨hi, xs, hl, item, fin⟩ := step i τ hJ
  refine next_list hh hl fin fun v hv => ?_
  refine ⟨.one, W.mono (item v [(a, .cl (itObj l (i + 1)))] hv) fun _ τ' q => W.mono q fun fl σ₃ q => ?_⟩
  cases fl with
  | next => exact ⟨_, by omega, i + 1, rfl, rfl, q⟩
  | cont => exact ⟨_, by omega, i + 1, rfl, rfl, q⟩
  | brk => exact q
  | ret v => exact q
/-- x op= value, x a local name -/
theorem w_consAugL {x : Str} {px pos : Pos} {op value rest} {old : Value} {Q : Flow → Sg → Prop} (hL : env.locals = L) (hv : σ.m x = some old)
    (h : W b A F L (eval value env) σ fun v σ₂ => W b A F L (inplaceOp op old v) σ₂ fun r σ₃ => W b A F L (storeName env x r) σ₃ fun _ σ₄ => W b A F L (execs rest env) σ₄ Q)
    (hk : env.scope.kind = .function := by with_unfolding_all rfl) (hl : env.kindOf x = some .local := by with_unfolding_all rfl) : W b A F L (execs (.AugAssign (.Name x px) op value pos :: rest) env) σ Q :=
  w_cons fun s E y => wpAny_AugAssign_Name (wpAny_loadName_local hk hl (hL ▸ y.ns) hv (wpAny_mono (h s E y) (fun _ s' ⟨_, y, q⟩ => wpAny_mono (q s' E y) (fun _ s' ⟨_, y, q⟩ => wpAny_mono (q s' E y) (fun _ s' ⟨σ', y, q⟩ => ⟨σ', y, q⟩) fun _ _ e => e) fun _ _ e => e) fun _ _ e => e))
/-- xs.append(x) -/
theorem w_consApp {o x : Expr} {ap cp pos : Pos} {rest} {pl : Sem Bool} {Q : Flow → Sg → Prop}
    (h : W b A F L (eval o env) σ fun ov σ₁ => ∃ l xs, ov = .ref l ∧ σ₁.at_ l = some (.lst xs) ∧ W b A F L (eval x env) σ₁ fun v σ₂ => ∃ ys, σ₂.at_ l = some (.lst ys) ∧ ys.length ≤ sizeLine ∧ W b A F L (execs rest env) (σ₂.put l (.lst (ys ++ [v]))) Q)
    (he : eval (.Call (.Attribute o "append" ap) [x] [] cp) env = (do
      let ov ← eval o env
      standAt ap.atName
      let (f, first) ← holding [ov] (getMethod ov "append" pl)
      callWith cp f first (backTo cp (starEach [x] env)) (backToKw cp (keywordEach [] env))) := by with_unfolding_all rfl)
    (hst : starEach [x] env = (false, eval x env) :: starEach [] env := by with_unfolding_all rfl)
    (hp : (backTo cp (starEach [x] env)).any (·.1) = false := by with_unfolding_all rfl)
    (hi : interactive env = false := by with_unfolding_all rfl) (hs : swapsWith (.Call (.Attribute o "append" ap) [x] [] cp) none pos.line env = pure false := by with_unfolding_all rfl) :
    W b A F L (execs (.Expr (.Call (.Attribute o "append" ap) [x] [] cp) pos :: rest) env) σ Q := by
  refine w_consE (w_callM (pl := pl) (W.mono h fun ov σ₁ ⟨l, xs, e, hl, q⟩ => ?_) he) hi hs
  subst e
  refine w_gmAppend hl (w_cwB (w_items (W.mono q fun v σ₂ ⟨ys, hl2, hz, q⟩ => w_items0 (w_append hl2 hz ⟨(fun a e => by cases e), q⟩)) hst) hp)
end
theorem range_up (a N : Nat) (h : N ≤ 2 ^ 21) (ha : a ≤ 2 ^ 21) : Builtin.Range.small a N 1 = true ∧ Builtin.Range.rangeSize a N 1 = (N - a : Nat) := by
  refine ⟨PySem.small_one (by omega) (by omega) (by omega) (by omega), ?_⟩
  rw [PySem.rangeSize_one]; split <;> omega
theorem range_down (N : Nat) (h : N ≤ 2 ^ 21) : Builtin.Range.small ((N : Int) - 1) (-1) (-1) = true ∧ Builtin.Range.rangeSize ((N : Int) - 1) (-1) (-1) = (N : Nat) := by
  have e : Builtin.Range.rangeSize ((N : Int) - 1) (-1) (-1) = (N : Nat) := by
    unfold Builtin.Range.rangeSize
    rw [if_neg (by decide)]
    split
    · have : ((N : Int) - 1 - (-1) - 1) / (-(-1)) = (N : Int) - 1 := by
        rw [show -(-1 : Int) = 1 by decide, Int.ediv_one]; omega
      omega
    · omega
  refine ⟨?_, e⟩
  unfold Builtin.Range.small
  rw [e]
  unfold Builtin.Range.rangeFitsLong
  simp only [Bool.and_eq_true, Bool.or_eq_true, decide_eq_true_eq]
  refine ⟨⟨⟨⟨⟨?_, ?_⟩, ?_, ?_⟩, ?_, ?_⟩, ?_, ?_⟩, .inr ?_⟩ <;> first | omega | skip
  rw [if_neg (by decide)]
  simp only [Bool.and_eq_true, decide_eq_true_eq]
  omega
section
variable {b : Base} {A : Around} {F : Fs} {L : Addr} {σ : Sg} {env : Env}
theorem w_consSub {o i : Expr} {pos' value pos rest} {Q : Flow → Sg → Prop}
    (h : W b A F L (eval value env) σ fun v σ₁ => W b A F L (eval o env) σ₁ fun ov σ₂ => W b A F L (eval i env) σ₂ fun iv σ₃ => W b A F L (setItem ov iv v) σ₃ fun _ σ₄ => W b A F L (execs rest env) σ₄ Q)
    (hs : swapsWith value (some (.Subscript o i pos')) pos.line env = pure false := by with_unfolding_all rfl) : W b A F L (execs (.Assign [.Subscript o i pos'] value pos :: rest) env) σ Q := w_cons (w_assignSub h hs)
theorem w_seqK {a : Addr} {o : Obj} {xs : Array Value} {n : Nat} {Q : Option (Array Value) → Sg → Prop} (G : Glb b) (hk : (Kb b).lookup a = some o) (hd : o.data = .seq xs n) (h : Q (some xs) σ) : W b A F L (seqItems? (.ref a)) σ Q := fun s E z =>
  wpAny_seqItems (z.keep _ _ (G.k _ _ hk)) hd ⟨σ, z, h⟩
theorem w_consAttr {o : Expr} {attr : Str} {pos' value pos rest} {Q : Flow → Sg → Prop}
    (h : W b A F L (eval value env) σ fun v σ₁ => W b A F L (eval o env) σ₁ fun ov σ₂ => W b A F L (setAttr ov attr v) σ₂ fun _ σ₃ => W b A F L (execs rest env) σ₃ Q)
    (hs : swapsWith value (some (.Attribute o attr pos')) pos.line env = pure false := by with_unfolding_all rfl) : W b A F L (execs (.Assign [.Attribute o attr pos'] value pos :: rest) env) σ Q :=
  w_cons fun s E x => plainObj_wpAny_Assign_Attribute (wpAny_mono (h s E x) (fun _ s' ⟨_, y, q⟩ => wpAny_mono (q s' E y) (fun _ s' ⟨_, y, q⟩ => wpAny_mono (q s' E y) (fun _ s' ⟨σ', y, q⟩ => ⟨σ', y, q⟩) fun _ _ e => e) fun _ _ e => e) fun _ _ e => e) hs
end
theorem Dp.some {g : Gf} {n : Nat} {a : Addr} (h : Dp g n a) : ∃ nd, g a = some nd := by
  cases n with
  | zero => obtain ⟨d, k, v, e⟩ := h; exact ⟨_, e⟩
  | succ n =>
    unfold Dp at h
    cases e : g a with
    | none => rw [e] at h; exact h.elim
    | some nd => exact ⟨nd, rfl⟩
structure Rm (A : Around) (n : Nat) : Prop where
  r : Room A (n + 5) (8 * n + 200)
theorem Rm.deeper {A : Around} {n : Nat} {e : Env} (x : Rm A (n + 1)) : Rm (A.deeper e) n := ⟨(x.r.le (n' := n + 6) (u' := 8 * n + 205) (by omega) (by omega)).deeper.le (by omega) (by omega)⟩
theorem Rm.hh {A : Around} {n : Nat} (x : Rm A n) : A.handled = none := x.r.handled
theorem Rm.dep {A : Around} {n : Nat} (x : Rm A n) : A.depth < recursionLimit := by have := x.r.depth; omega

theorem wc_fn1 {b : Base} {A : Around} {F : Fs} {L : Addr} {σ : Sg} {f : Addr} {args : Args} {fd : FuncData} {body : List Stmt} {binds : List (Str × Value)} {Q : Value → Sg → Prop}
    (G : Glb b) (ho : (Kb b).lookup f = some { cls := .type "function", data := .func fd }) (hcd : codeIn (Kb b) fd.code fd.qualname = true) (hbody : fd.body = .stmts body) (hd : A.depth < recursionLimit) (hb : bindArgs fd args = pure binds)
    (h : ∀ L', CellK fd.scope.names fd.closure (σ.setM fun _ => none) fun cs σ₁ => BindK (fnEnv fd L' cs f) binds σ₁ fun σ₂ =>
      W b (A.deeper (fnEnv fd L' cs f)) ((L, .ns σ.m) :: F) L' (execs body (fnEnv fd L' cs f)) σ₂ fun fl σ' => Q (retOf fl) (σ'.setM σ.m))
    (hco : fd.scope.isCoroutine = false := by with_unfolding_all rfl) (hgen : fd.scope.isGenerator = false := by with_unfolding_all rfl) (hk : fd.scope.kind = .function := by with_unfolding_all rfl) : WC b A F L (.call (.ref f) args) σ Q :=
  wc_fn G ho hcd hbody hd (by rw [hb]; exact W.pure h) hco hgen hk

end PartA14

section PartB1
open PySem PySem.W PyProof.Rows PySem.Calls
set_option maxRecDepth 100000
set_option maxHeartbeats 4000000
set_option linter.unusedVariables false

local macro_rules | `(tactic| k_clsL) => `(tactic| first
  | with_reducible assumption
  | (with_reducible show Sg.m (Sg.setL _ _ _) _ = some _; first | with_reducible exact getL_same | (apply getL_skip; with_unfolding_all decide; k_clsL))
  | (with_reducible show Sg.m (Sg.put _ _ _) _ = some _; apply putM; k_clsL)
  | (with_reducible show Sg.m (Sg.del _ _) _ = some _; apply delM; k_clsL)
  | (with_reducible show Sg.m (Sg.setM _ _) _ = some _; apply setMM; k_clsL)
  | (apply viaM; with_reducible assumption; k_clsL)
  | (apply viaE; with_reducible assumption; k_clsL))
local macro_rules | `(tactic| k_offL) => `(tactic| first
  | with_reducible assumption
  | with_reducible exact Ext.rfl
  | (with_reducible show Ext _ (Sg.setL _ _ _); refine Ext.setL ?_; k_offL)
  | (with_reducible show Ext _ (Sg.put _ _ _); refine Ext.put ?_ (by first | with_reducible assumption | with_reducible exact setA (by with_reducible assumption)); k_offL)
  | (with_reducible show Ext _ (Sg.setM _ _); refine Ext.setM ?_; k_offL)
  | (with_reducible refine Ext.tr (by with_reducible assumption) ?_; k_offL)
  | (with_reducible refine Ext.tr2 (by with_reducible assumption) ?_; k_offL))
local macro_rules | `(tactic| k_places) => `(tactic| first
  | with_reducible assumption
  | with_reducible exact putA_same
  | (with_reducible show Sg.at_ (Sg.setL _ _ _) _ = some _; apply setA; k_places)
  | (with_reducible show Sg.at_ (Sg.setM _ _) _ = some _; apply setMA; k_places)
  | (with_reducible show Sg.at_ (Sg.put _ _ _) _ = some _; apply putA_new; with_reducible assumption; k_places)
  | (apply ESt.at_; with_reducible assumption; k_places)
  | (apply Ext.at'; with_reducible assumption; k_places))
local macro_rules | `(tactic| k_subL) => `(tactic| first
  | (with_reducible show W _ _ _ _ (spliced (backTo _ (starEach [] _))) _ _; refine w_items0 ?_)
  | (with_reducible show W _ _ _ _ (spliced (backTo _ (starEach (_ :: _) _))) _ _; refine w_items ?_)
  | (with_reducible show W _ _ _ _ (eval (Expr.Name _ _) _) _ _; first | refine w_local (by with_unfolding_all rfl) (by k_clsL) ?_ | refine w_cell (by with_unfolding_all rfl) (by k_places) ?_ | (with_reducible show W _ _ _ _ (eval (Expr.Name ("Tree" : Str) _) _) _ _; refine w_glob (v := .ref 142) (by assumption) (by kernel_rfl) ?_) | (with_reducible show W _ _ _ _ (eval (Expr.Name ("Token" : Str) _) _) _ _; refine w_glob (v := .ref 45) (by assumption) (by kernel_rfl) ?_))
  | (with_reducible show W _ _ _ _ (eval (Expr.Call (Expr.Name ("isinstance" : Str) _) _ [] _) _) _ _; refine w_callB (n := "isinstance") (by assumption) boot_isi (by kernel_rfl) ?_)
  | (with_reducible show W _ _ _ _ (eval (Expr.Call (Expr.Name ("len" : Str) _) _ [] _) _) _ _; refine w_callB (n := "len") (by assumption) boot_len (by kernel_rfl) ?_)
  | (with_reducible show W _ _ _ _ (eval (Expr.Call (Expr.Name ("min" : Str) _) _ [] _) _) _ _; refine w_callB (n := "min") (by assumption) boot_min (by kernel_rfl) ?_)
  | (with_reducible show W _ _ _ _ (eval (Expr.Call (Expr.Name ("range" : Str) _) _ [] _) _) _ _; refine w_callT (n := "range") (by assumption) boot_range (by kernel_rfl) ?_)
  | (with_reducible show W _ _ _ _ (eval (Expr.Call (Expr.Name ("str" : Str) _) _ [] _) _) _ _; refine w_callT (n := "str") (by assumption) boot_str (by kernel_rfl) ?_)
  | (with_reducible show W _ _ _ _ (eval (Expr.Call (Expr.Name ("list" : Str) _) _ [] _) _) _ _; refine w_callT (n := "list") (by assumption) boot_list (by kernel_rfl) ?_)
  | (with_reducible show W _ _ _ _ (eval (Expr.Call (Expr.Name ("reversed" : Str) _) _ [] _) _) _ _; refine w_callT (n := "reversed") (by assumption) boot_rev (by kernel_rfl) ?_)
  | (with_reducible show W _ _ _ _ (eval (Expr.Call (Expr.Name ("filter" : Str) _) _ [] _) _) _ _; refine w_callT (n := "filter") (by assumption) boot_filter (by kernel_rfl) ?_)
  | (with_reducible show W _ _ _ _ (call (.builtin "len") [.ref _]) _ _; (refine w_len (by k_places) ?_ fun _ => ?_); rotate_left)
  | (with_reducible show W _ _ _ _ (binaryOp .Add (.int _ _) (.int _ _)) _ _; refine w_addI fun _ => ?_)
  | (with_reducible show W _ _ _ _ (binaryOp .Sub (.int _ _) (.int _ _)) _ _; refine w_subI fun _ => ?_)
  | (with_reducible show W _ _ _ _ (compareOp .Eq (.int _ _) (.int _ _)) _ _; refine w_eqI ?_)
  | (with_reducible show W _ _ _ _ (compareOp .NotEq (.int _ _) (.int _ _)) _ _; refine w_neI ?_)
  | (with_reducible show W _ _ _ _ (compareOp .Lt (.int _ _) (.int _ _)) _ _; refine w_ltI ?_)
  | (with_reducible show W _ _ _ _ (compareOp .Eq (.str _ _) (.str _ _)) _ _; refine w_eqS ?_)
  | (with_reducible show W _ _ _ _ (compareOp .NotEq (.bool _) (.bool _)) _ _; refine w_neB ?_)
  | (with_reducible show W _ _ _ _ (unaryOp .USub (.int _ _)) _ _; refine w_negI fun _ => ?_)
  | (with_reducible show W _ _ _ _ (unaryOp .Not _) _ _; refine w_notv ?_)
  | (with_reducible show W _ _ _ _ (eval (Expr.Attribute _ _ _) _) _ _; refine w_attr ?_)
  | (with_reducible show W _ _ _ _ (eval (Expr.List _ _) _) _ _; refine w_list ?_)
  | (with_reducible show W _ _ _ _ (eval (Expr.Tuple _ _ _) _) _ _; refine w_tuple ?_)
  | (with_reducible show W _ _ _ _ (eval (Expr.BinOp _ _ _ _) _) _ _; refine w_binop ?_)
  | (with_reducible show W _ _ _ _ (eval (Expr.Compare _ [_] [_] _) _) _ _; refine w_cmp ?_)
  | (with_reducible show W _ _ _ _ (eval (Expr.IfExp _ _ _ _) _) _ _; refine w_ifexp ?_)
  | (with_reducible show W _ _ _ _ (eval (Expr.Subscript _ _ _) _) _ _; refine w_sub ?_)
  | (with_reducible show W _ _ _ _ (eval (Expr.UnaryOp _ _ _) _) _ _; refine w_unop ?_)
  | (with_reducible show W _ _ _ _ (eval (Expr.Constant .none _ _) _) _ _; refine w_none ?_)
  | (with_reducible show W _ _ _ _ (eval (Expr.Constant (.bool _) _ _) _) _ _; refine w_tf ?_)
  | (with_reducible show W _ _ _ _ (eval (Expr.Constant (.int _) _ _) _) _ _; refine w_int ?_; intro _)
  | (with_reducible show W _ _ _ _ (eval (Expr.Constant (.str _) _ _) _) _ _; refine w_str ?_; intro _)
  | (with_reducible show W _ _ _ _ (execs [] _) _ _; refine w_nil ?_)
  | (with_reducible show W _ _ _ _ (execs (Stmt.Assign [Expr.Name _ _] (Expr.ListComp _ [Comprehension.mk _ _ _ _] _ _) _ :: _) _) _ _; refine w_cons (w_assignComp ?_))
  | (with_reducible show W _ _ _ _ (execs (Stmt.Assign [Expr.Name _ _] _ _ :: _) _) _ _; refine w_consA ?_)
  | (with_reducible show W _ _ _ _ (execs (Stmt.Assign [Expr.Attribute _ _ _] _ _ :: _) _) _ _; refine w_consAttr ?_)
  | (with_reducible show W _ _ _ _ (execs (Stmt.Assign [Expr.Subscript _ _ _] _ _ :: _) _) _ _; refine w_consSub ?_)
  | (with_reducible show W _ _ _ _ (execs (Stmt.If _ _ [] _ :: _) _) _ _; refine w_consIf ?_)
  | (with_reducible show W _ _ _ _ (execs (Stmt.If _ _ _ _ :: _) _) _ _; refine w_consElse ?_)
  | (with_reducible show W _ _ _ _ (execs (Stmt.Return (some _) _ :: _) _) _ _; refine w_consRet ?_)
  | (with_reducible show W _ _ _ _ (execs (Stmt.Break _ :: _) _) _ _; refine w_consBrk ?_)
  | (with_reducible show W _ _ _ _ (execs (Stmt.Continue _ :: _) _) _ _; refine w_consCont ?_)
  | (with_reducible show W _ _ _ _ (execs (Stmt.Expr (Expr.Call (Expr.Attribute _ _ _) [_] [] _) _ :: _) _) _ _; refine w_consApp ?_)
  | (with_reducible show W _ _ _ _ (execs (Stmt.Expr _ _ :: _) _) _ _; refine w_consE ?_)
  | (with_reducible show W _ _ _ _ (isTrue (Expr.UnaryOp .Not _ _) _ _) _ _; refine w_not ?_)
  | (with_reducible show W _ _ _ _ (isTrue (Expr.BoolOp _ _ _) _ _) _ _; refine w_bool ?_)
  | (with_reducible show W _ _ _ _ (allTrue .And [] _) _ _; refine w_andNil ?_)
  | (with_reducible show W _ _ _ _ (allTrue .Or [] _) _ _; refine w_orNil ?_)
  | (with_reducible show W _ _ _ _ (allTrue .And (_ :: _) _) _ _; refine w_and ?_)
  | (with_reducible show W _ _ _ _ (allTrue .Or (_ :: _) _) _ _; refine w_or ?_)
  | (with_reducible show W _ _ _ _ (isTrue (Expr.Compare _ [_] [_] _) _ _) _ _; refine w_tcmp ?_)
  | (with_reducible show W _ _ _ _ (isTrue _ _ _) _ _; refine w_tval ?_)
  | (with_reducible show W _ _ _ _ (storeName _ _ _) _ _; first | refine w_storeL (by with_unfolding_all rfl) ?_ | refine w_storeC (by with_unfolding_all rfl) (by k_places) ?_)
  | (with_reducible show W _ _ _ _ (tests [_] _) _ _; refine w_tests1 ?_)
  | (with_reducible show W _ _ _ _ (tests [] _) _ _; refine w_tests0 ?_)
  | (with_reducible show W _ _ _ _ (eval (Expr.ListComp _ [Comprehension.mk _ _ _ _] _ _) _) _ _; refine w_listcomp ?_)
  | (with_reducible show W _ _ _ _ (truthy (.bool _)) _ _; refine w_truthyB ?_)
  | (with_reducible show thenK _ _ Flow.next _; refine thenK_next ?_)
  | (with_reducible show thenK _ _ Flow.brk _; refine thenK_brk ?_)
  | (with_reducible show thenK _ _ Flow.cont _; refine thenK_cont ?_)
  | (with_reducible show thenK _ _ (Flow.ret _) _; refine thenK_ret ?_)
  | (with_reducible show turnK _ _ _ Flow.next _; refine turnK_next ?_)
  | (with_reducible show turnK _ _ _ Flow.brk _; refine turnK_brk ?_)
  | (with_reducible show turnK _ _ _ Flow.cont _; refine turnK_cont ?_)
  | (with_reducible show turnK _ _ _ (Flow.ret _) _; refine turnK_ret ?_))

theorem c_down {b : Base} (G : Glb b) (g : Gf) : ∀ n A F L σ a, Gr σ g → Dp g n a → isTree g a = true → Rm A n → (gdown g n a).length ≤ 2 ^ 20 →
    WC b A F L (.call (.ref 160) ⟨[.ref a], []⟩) σ fun v σ' => ∃ r, v = .ref r ∧ σ'.at_ r = some (.lst ((gdown g n a).map .ref)) ∧ ESt σ σ' := by
  intro n
  induction n with
  | zero =>
    intro A F L σ a hG hD hT
    obtain ⟨d, k, v, e⟩ := hD
    unfold isTree at hT; rw [e] at hT; cases hT
  | succ n ih =>
    intro A F L σ a hG hD hT R hlen
    unfold isTree at hT
    unfold Dp at hD
    unfold gdown at hlen ⊢
    split at hT
    · rename_i d l nm ks e
      rw [e] at hD
      simp only [e] at hlen ⊢
      refine wc_fn1 (fd := fDown.1) (binds := [("tree", Value.ref a)]) G (fDown.2 _) (by kernel_rfl) rfl R.dep rfl fun L' => ?_
      show W _ _ _ _ _ _ _
      repeat k_subL
      refine w_newList (by rw [sizeLine_eq]; simp) fun r hr => ?_
      repeat k_subL
      refine w_forE R.deeper.hh (fun i τ => Ext σ τ ∧ ∃ lf, τ.m "found" = some (.ref lf) ∧ τ.at_ lf = some (.lst ((a :: (ks.take i).flatMap (gdown g n)).map .ref))) ?_
      repeat k_subL
      refine w_children G ((hG a _ e).ext ?_) ?_
      · k_offL
      refine ⟨l, ks.map .ref, rfl, ⟨by k_offL, r, by k_clsL, by simpa using setA putA_same⟩, fun i τ h => ((hG a _ e).ext h.1).2, fun i v τ Fa ⟨hE, lf, hf, hlf⟩ hv => ?_, fun τ ⟨hE, lf, hf, hlf⟩ => ?_⟩
      · obtain ⟨c, rfl, hc⟩ : ∃ c, v = .ref c ∧ ks[i]? = some c := by
          rw [List.getElem?_map] at hv
          obtain ⟨c, h1, h2⟩ := Option.map_eq_some_iff.mp hv
          exact ⟨c, h2.symm, h1⟩
        repeat k_subL
        repeat k_subL
        have hDc := hD c (List.mem_of_getElem? hc)
        obtain ⟨nd, hnd⟩ := Dp.some hDc
        have hflat : (ks.take (i + 1)).flatMap (gdown g n) = (ks.take i).flatMap (gdown g n) ++ gdown g n c := by
          rw [List.take_add_one, hc]; simp
        have hle : ((ks.take (i + 1)).flatMap (gdown g n)).length ≤ (ks.flatMap (gdown g n)).length := by
          conv => rhs; rw [← List.take_append_drop (i + 1) ks, List.flatMap_append, List.length_append]
          omega
        rw [hflat, List.length_append] at hle
        simp only [List.length_cons] at hlen
        refine w_isTree (nd := nd) G ((hG c _ hnd).ext ?_) ?_
        · k_offL
        repeat k_subL
        refine ⟨fun ht => ?_, fun hf' => ?_⟩
        · have hTc : isTree g c = true := by unfold isTree; rw [hnd]; cases nd <;> first | rfl | cases ht
          repeat k_subL
          refine w_call0 (f := 160) G (by kernel_rfl) ?_
          repeat k_subL
          refine WC.call (WC.mono (ih _ _ _ _ c (hG.ext ?_) hDc hTc R.deeper (by omega)) fun v σ' ⟨r2, hv2, hr2, hE2⟩ => ?_)
          · k_offL
          subst hv2
          refine w_addL (xs := (a :: (ks.take i).flatMap (gdown g n)).map .ref) (ys := (gdown g n c).map .ref) ?_ hr2 (by rw [sizeLine_eq]; simp only [List.length_map, List.length_cons]; omega) fun r3 hr3 => ?_
          · k_places
          repeat k_subL
          refine ⟨?_, r3, ?_, ?_⟩
          · k_offL
          · k_clsL
          · rw [hflat]
            refine setA ?_
            rw [putA_same]; simp
        · repeat k_subL
          refine ⟨?_, lf, ?_, ?_⟩
          · k_offL
          · k_clsL
          · have hz : gdown g n c = [] := by
              cases nd with
              | node => cases hf'
              | tok d k v => cases n with
                | zero => rfl
                | succ n => unfold gdown; rw [hnd]
            rw [hflat, hz, List.append_nil]
            k_places
      · repeat k_subL
        rw [show (ks.map Value.ref).length = ks.length by simp, List.take_length] at hlf
        exact ⟨lf, rfl, hlf, hE.setM, rfl⟩
    · cases hT
end PartB1

section PartB2
open PySem PySem.W PyProof.Rows PySem.Calls
set_option maxRecDepth 100000
set_option maxHeartbeats 4000000
set_option linter.unusedVariables false

local macro_rules | `(tactic| k_clsL) => `(tactic| first
  | with_reducible assumption
  | (with_reducible show Sg.m (Sg.setL _ _ _) _ = some _; first | with_reducible exact getL_same | (apply getL_skip; with_unfolding_all decide; k_clsL))
  | (with_reducible show Sg.m (Sg.put _ _ _) _ = some _; apply putM; k_clsL)
  | (with_reducible show Sg.m (Sg.del _ _) _ = some _; apply delM; k_clsL)
  | (with_reducible show Sg.m (Sg.setM _ _) _ = some _; apply setMM; k_clsL)
  | (apply viaM; with_reducible assumption; k_clsL)
  | (apply viaE; with_reducible assumption; k_clsL))
local macro_rules | `(tactic| k_offL) => `(tactic| first
  | with_reducible assumption
  | with_reducible exact Ext.rfl
  | (with_reducible show Ext _ (Sg.setL _ _ _); refine Ext.setL ?_; k_offL)
  | (with_reducible show Ext _ (Sg.put _ _ _); refine Ext.put ?_ (by first | with_reducible assumption | with_reducible exact setA (by with_reducible assumption)); k_offL)
  | (with_reducible show Ext _ (Sg.setM _ _); refine Ext.setM ?_; k_offL)
  | (with_reducible refine Ext.tr (by with_reducible assumption) ?_; k_offL)
  | (with_reducible refine Ext.tr2 (by with_reducible assumption) ?_; k_offL))
local macro_rules | `(tactic| k_places) => `(tactic| first
  | with_reducible assumption
  | with_reducible exact putA_same
  | (with_reducible show Sg.at_ (Sg.setL _ _ _) _ = some _; apply setA; k_places)
  | (with_reducible show Sg.at_ (Sg.setM _ _) _ = some _; apply setMA; k_places)
  | (with_reducible show Sg.at_ (Sg.put _ _ _) _ = some _; apply putA_new; with_reducible assumption; k_places)
  | (apply ESt.at_; with_reducible assumption; k_places)
  | (apply Ext.at'; with_reducible assumption; k_places))
local macro_rules | `(tactic| k_subL) => `(tactic| first
  | (with_reducible show W _ _ _ _ (spliced (backTo _ (starEach [] _))) _ _; refine w_items0 ?_)
  | (with_reducible show W _ _ _ _ (spliced (backTo _ (starEach (_ :: _) _))) _ _; refine w_items ?_)
  | (with_reducible show W _ _ _ _ (eval (Expr.Name _ _) _) _ _; first | refine w_local (by with_unfolding_all rfl) (by k_clsL) ?_ | refine w_cell (by with_unfolding_all rfl) (by k_places) ?_ | (with_reducible show W _ _ _ _ (eval (Expr.Name ("Tree" : Str) _) _) _ _; refine w_glob (v := .ref 142) (by assumption) (by kernel_rfl) ?_) | (with_reducible show W _ _ _ _ (eval (Expr.Name ("Token" : Str) _) _) _ _; refine w_glob (v := .ref 45) (by assumption) (by kernel_rfl) ?_))
  | (with_reducible show W _ _ _ _ (eval (Expr.Call (Expr.Name ("isinstance" : Str) _) _ [] _) _) _ _; refine w_callB (n := "isinstance") (by assumption) boot_isi (by kernel_rfl) ?_)
  | (with_reducible show W _ _ _ _ (eval (Expr.Call (Expr.Name ("len" : Str) _) _ [] _) _) _ _; refine w_callB (n := "len") (by assumption) boot_len (by kernel_rfl) ?_)
  | (with_reducible show W _ _ _ _ (eval (Expr.Call (Expr.Name ("min" : Str) _) _ [] _) _) _ _; refine w_callB (n := "min") (by assumption) boot_min (by kernel_rfl) ?_)
  | (with_reducible show W _ _ _ _ (eval (Expr.Call (Expr.Name ("range" : Str) _) _ [] _) _) _ _; refine w_callT (n := "range") (by assumption) boot_range (by kernel_rfl) ?_)
  | (with_reducible show W _ _ _ _ (eval (Expr.Call (Expr.Name ("str" : Str) _) _ [] _) _) _ _; refine w_callT (n := "str") (by assumption) boot_str (by kernel_rfl) ?_)
  | (with_reducible show W _ _ _ _ (eval (Expr.Call (Expr.Name ("list" : Str) _) _ [] _) _) _ _; refine w_callT (n := "list") (by assumption) boot_list (by kernel_rfl) ?_)
  | (with_reducible show W _ _ _ _ (eval (Expr.Call (Expr.Name ("reversed" : Str) _) _ [] _) _) _ _; refine w_callT (n := "reversed") (by assumption) boot_rev (by kernel_rfl) ?_)
  | (with_reducible show W _ _ _ _ (eval (Expr.Call (Expr.Name ("filter" : Str) _) _ [] _) _) _ _; refine w_callT (n := "filter") (by assumption) boot_filter (by kernel_rfl) ?_)
  | (with_reducible show W _ _ _ _ (call (.builtin "len") [.ref _]) _ _; (refine w_len (by k_places) ?_ fun _ => ?_); rotate_left)
  | (with_reducible show W _ _ _ _ (binaryOp .Add (.int _ _) (.int _ _)) _ _; refine w_addI fun _ => ?_)
  | (with_reducible show W _ _ _ _ (binaryOp .Sub (.int _ _) (.int _ _)) _ _; refine w_subI fun _ => ?_)
  | (with_reducible show W _ _ _ _ (compareOp .Eq (.int _ _) (.int _ _)) _ _; refine w_eqI ?_)
  | (with_reducible show W _ _ _ _ (compareOp .NotEq (.int _ _) (.int _ _)) _ _; refine w_neI ?_)
  | (with_reducible show W _ _ _ _ (compareOp .Lt (.int _ _) (.int _ _)) _ _; refine w_ltI ?_)
  | (with_reducible show W _ _ _ _ (compareOp .Eq (.str _ _) (.str _ _)) _ _; refine w_eqS ?_)
  | (with_reducible show W _ _ _ _ (compareOp .NotEq (.bool _) (.bool _)) _ _; refine w_neB ?_)
  | (with_reducible show W _ _ _ _ (unaryOp .USub (.int _ _)) _ _; refine w_negI fun _ => ?_)
  | (with_reducible show W _ _ _ _ (unaryOp .Not _) _ _; refine w_notv ?_)
  | (with_reducible show W _ _ _ _ (eval (Expr.Attribute _ _ _) _) _ _; refine w_attr ?_)
  | (with_reducible show W _ _ _ _ (eval (Expr.List _ _) _) _ _; refine w_list ?_)
  | (with_reducible show W _ _ _ _ (eval (Expr.Tuple _ _ _) _) _ _; refine w_tuple ?_)
  | (with_reducible show W _ _ _ _ (eval (Expr.BinOp _ _ _ _) _) _ _; refine w_binop ?_)
  | (with_reducible show W _ _ _ _ (eval (Expr.Compare _ [_] [_] _) _) _ _; refine w_cmp ?_)
  | (with_reducible show W _ _ _ _ (eval (Expr.IfExp _ _ _ _) _) _ _; refine w_ifexp ?_)
  | (with_reducible show W _ _ _ _ (eval (Expr.Subscript _ _ _) _) _ _; refine w_sub ?_)
  | (with_reducible show W _ _ _ _ (eval (Expr.UnaryOp _ _ _) _) _ _; refine w_unop ?_)
  | (with_reducible show W _ _ _ _ (eval (Expr.Constant .none _ _) _) _ _; refine w_none ?_)
  | (with_reducible show W _ _ _ _ (eval (Expr.Constant (.bool _) _ _) _) _ _; refine w_tf ?_)
  | (with_reducible show W _ _ _ _ (eval (Expr.Constant (.int _) _ _) _) _ _; refine w_int ?_; intro _)
  | (with_reducible show W _ _ _ _ (eval (Expr.Constant (.str _) _ _) _) _ _; refine w_str ?_; intro _)
  | (with_reducible show W _ _ _ _ (execs [] _) _ _; refine w_nil ?_)
  | (with_reducible show W _ _ _ _ (execs (Stmt.Assign [Expr.Name _ _] (Expr.ListComp _ [Comprehension.mk _ _ _ _] _ _) _ :: _) _) _ _; refine w_cons (w_assignComp ?_))
  | (with_reducible show W _ _ _ _ (execs (Stmt.Assign [Expr.Name _ _] _ _ :: _) _) _ _; refine w_consA ?_)
  | (with_reducible show W _ _ _ _ (execs (Stmt.Assign [Expr.Attribute _ _ _] _ _ :: _) _) _ _; refine w_consAttr ?_)
  | (with_reducible show W _ _ _ _ (execs (Stmt.Assign [Expr.Subscript _ _ _] _ _ :: _) _) _ _; refine w_consSub ?_)
  | (with_reducible show W _ _ _ _ (execs (Stmt.If _ _ [] _ :: _) _) _ _; refine w_consIf ?_)
  | (with_reducible show W _ _ _ _ (execs (Stmt.If _ _ _ _ :: _) _) _ _; refine w_consElse ?_)
  | (with_reducible show W _ _ _ _ (execs (Stmt.Return (some _) _ :: _) _) _ _; refine w_consRet ?_)
  | (with_reducible show W _ _ _ _ (execs (Stmt.Break _ :: _) _) _ _; refine w_consBrk ?_)
  | (with_reducible show W _ _ _ _ (execs (Stmt.Continue _ :: _) _) _ _; refine w_consCont ?_)
  | (with_reducible show W _ _ _ _ (execs (Stmt.Expr (Expr.Call (Expr.Attribute _ _ _) [_] [] _) _ :: _) _) _ _; refine w_consApp ?_)
  | (with_reducible show W _ _ _ _ (execs (Stmt.Expr _ _ :: _) _) _ _; refine w_consE ?_)
  | (with_reducible show W _ _ _ _ (isTrue (Expr.UnaryOp .Not _ _) _ _) _ _; refine w_not ?_)
  | (with_reducible show W _ _ _ _ (isTrue (Expr.BoolOp _ _ _) _ _) _ _; refine w_bool ?_)
  | (with_reducible show W _ _ _ _ (allTrue .And [] _) _ _; refine w_andNil ?_)
  | (with_reducible show W _ _ _ _ (allTrue .Or [] _) _ _; refine w_orNil ?_)
  | (with_reducible show W _ _ _ _ (allTrue .And (_ :: _) _) _ _; refine w_and ?_)
  | (with_reducible show W _ _ _ _ (allTrue .Or (_ :: _) _) _ _; refine w_or ?_)
  | (with_reducible show W _ _ _ _ (isTrue (Expr.Compare _ [_] [_] _) _ _) _ _; refine w_tcmp ?_)
  | (with_reducible show W _ _ _ _ (isTrue _ _ _) _ _; refine w_tval ?_)
  | (with_reducible show W _ _ _ _ (storeName _ _ _) _ _; first | refine w_storeL (by with_unfolding_all rfl) ?_ | refine w_storeC (by with_unfolding_all rfl) (by k_places) ?_)
  | (with_reducible show W _ _ _ _ (tests [_] _) _ _; refine w_tests1 ?_)
  | (with_reducible show W _ _ _ _ (tests [] _) _ _; refine w_tests0 ?_)
  | (with_reducible show W _ _ _ _ (eval (Expr.ListComp _ [Comprehension.mk _ _ _ _] _ _) _) _ _; refine w_listcomp ?_)
  | (with_reducible show W _ _ _ _ (truthy (.bool _)) _ _; refine w_truthyB ?_)
  | (with_reducible show thenK _ _ Flow.next _; refine thenK_next ?_)
  | (with_reducible show thenK _ _ Flow.brk _; refine thenK_brk ?_)
  | (with_reducible show thenK _ _ Flow.cont _; refine thenK_cont ?_)
  | (with_reducible show thenK _ _ (Flow.ret _) _; refine thenK_ret ?_)
  | (with_reducible show turnK _ _ _ Flow.next _; refine turnK_next ?_)
  | (with_reducible show turnK _ _ _ Flow.brk _; refine turnK_brk ?_)
  | (with_reducible show turnK _ _ _ Flow.cont _; refine turnK_cont ?_)
  | (with_reducible show turnK _ _ _ (Flow.ret _) _; refine turnK_ret ?_))

/-- the tokens below a, in their order -/
def gtoks (G : Gf) : Nat → Addr → List Addr
  | 0, _ => []
  | n + 1, a => match G a with
    | some (.node d l nm ks) => ks.flatMap fun k => if isTree G k then gtoks G n k else [k]
    | _ => []

theorem kidAt {ks : List Addr} {i : Nat} {v : Value} (hv : (ks.map Value.ref)[i]? = some v) : ∃ c, v = .ref c ∧ ks[i]? = some c := by
  rw [List.getElem?_map] at hv
  obtain ⟨c, h1, h2⟩ := Option.map_eq_some_iff.mp hv
  exact ⟨c, h2.symm, h1⟩
theorem flatTake {α : Type} {f : Addr → List α} {ks : List Addr} {i : Nat} {c : Addr} (hc : ks[i]? = some c) : (ks.take (i + 1)).flatMap f = (ks.take i).flatMap f ++ f c := by
  rw [List.take_add_one, hc]; simp
theorem flatTakeLe {α : Type} {f : Addr → List α} {ks : List Addr} {i : Nat} : ((ks.take i).flatMap f).length ≤ (ks.flatMap f).length := by
  conv => rhs; rw [← List.take_append_drop i ks, List.flatMap_append, List.length_append]
  omega

theorem c_tokens {b : Base} (G : Glb b) (g : Gf) : ∀ n A F L σ a, Gr σ g → Dp g n a → isTree g a = true → Rm A n → (gtoks g n a).length ≤ 2 ^ 20 →
    WC b A F L (.call (.ref 167) ⟨[.ref a], []⟩) σ fun v σ' => ∃ r, v = .ref r ∧ σ.at_ r = none ∧ σ'.at_ r = some (.lst ((gtoks g n a).map .ref)) ∧ ESt σ σ' := by
  intro n
  induction n with
  | zero =>
    intro A F L σ a hG hD hT
    obtain ⟨d, k, v, e⟩ := hD
    unfold isTree at hT; rw [e] at hT; cases hT
  | succ n ih =>
    intro A F L σ a hG hD hT R hlen
    unfold isTree at hT
    unfold Dp at hD
    unfold gtoks at hlen ⊢
    split at hT
    · rename_i d l nm ks e
      rw [e] at hD
      simp only [e] at hlen ⊢
      generalize hf : (fun k => if isTree g k then gtoks g n k else [k]) = f at hlen ⊢
      refine wc_fn1 (fd := fTokens.1) (binds := [("tree", Value.ref a)]) G (fTokens.2 _) (by kernel_rfl) rfl R.dep rfl fun L' => ?_
      show W _ _ _ _ _ _ _
      repeat k_subL
      refine w_newList (by rw [sizeLine_eq]; simp) fun r hr => ?_
      repeat k_subL
      refine w_forE R.deeper.hh (fun i τ => Ext σ τ ∧ ∃ lf, σ.at_ lf = none ∧ τ.m "found" = some (.ref lf) ∧ τ.at_ lf = some (.lst (((ks.take i).flatMap f).map .ref))) ?_
      repeat k_subL
      refine w_children G ((hG a _ e).ext ?_) ?_
      · k_offL
      refine ⟨l, ks.map .ref, rfl, ⟨by k_offL, r, hr, by k_clsL, by simpa using setA putA_same⟩, fun i τ h => ((hG a _ e).ext h.1).2, fun i v τ Fa ⟨hE, lf, hn, hf', hlf⟩ hv => ?_, fun τ ⟨hE, lf, hn, hf', hlf⟩ => ?_⟩
      · obtain ⟨c, rfl, hc⟩ := kidAt hv
        have hDc := hD c (List.mem_of_getElem? hc)
        obtain ⟨nd, hnd⟩ := Dp.some hDc
        have hflat := flatTake (f := f) hc
        have hle := flatTakeLe (f := f) (ks := ks) (i := i + 1)
        rw [hflat, List.length_append] at hle
        repeat k_subL
        repeat k_subL
        refine w_isTree (nd := nd) G ((hG c _ hnd).ext ?_) ?_
        · k_offL
        repeat k_subL
        refine ⟨fun ht => ?_, fun hf'' => ?_⟩
        · have hTc : isTree g c = true := by unfold isTree; rw [hnd]; cases nd <;> first | rfl | cases ht
          have hfc : f c = gtoks g n c := by rw [← hf]; simp only [hTc, if_true]
          repeat k_subL
          refine w_call0 (f := 167) G (by kernel_rfl) ?_
          repeat k_subL
          rw [hfc] at hle hflat
          refine WC.call (WC.mono (ih _ _ _ _ c (hG.ext ?_) hDc hTc R.deeper (by omega)) fun v σ' ⟨r2, hv2, hrn, hr2, hE2⟩ => ?_)
          · k_offL
          subst hv2
          refine w_addL (xs := ((ks.take i).flatMap f).map .ref) (ys := (gtoks g n c).map .ref) ?_ hr2 (by rw [sizeLine_eq]; simp only [List.length_map]; omega) fun r3 hr3 => ?_
          · k_places
          repeat k_subL
          refine ⟨?_, r3, ?_, ?_, ?_⟩
          · k_offL
          · cases q : σ.at_ r3 with
            | none => rfl
            | some cl =>
              have hx : Ext σ σ' := by k_offL
              rw [hx.at_ _ _ q] at hr3; cases hr3
          · k_clsL
          · rw [hflat]
            refine setA ?_
            rw [putA_same]; simp
        · have hTc : isTree g c = false := by unfold isTree; rw [hnd]; cases nd <;> first | rfl | cases hf''
          have hfc : f c = [c] := by rw [← hf]; simp [hTc]
          rw [hfc] at hle hflat
          repeat k_subL
          refine ⟨lf, ((ks.take i).flatMap f).map .ref, rfl, by k_places, ?_⟩
          repeat k_subL
          refine ⟨((ks.take i).flatMap f).map .ref, by k_places, ?_, ?_⟩
          · rw [sizeLine_eq]; simp only [List.length_map]; omega
          repeat k_subL
          refine ⟨?_, lf, hn, ?_, ?_⟩
          · exact Ext.putN (by k_offL) hn
          · k_clsL
          · rw [hflat]
            rw [putA_same]; simp
      · repeat k_subL
        rw [show (ks.map Value.ref).length = ks.length by simp, List.take_length] at hlf
        exact ⟨lf, rfl, hn, hlf, hE.setM, rfl⟩
    · cases hT
end PartB2

section PartB3
open PySem PySem.W PyProof.Rows PySem.Calls
set_option maxRecDepth 100000
set_option maxHeartbeats 4000000
set_option linter.unusedVariables false

local macro_rules | `(tactic| k_clsL) => `(tactic| first
  | with_reducible assumption
  | (with_reducible show Sg.m (Sg.setL _ _ _) _ = some _; first | with_reducible exact getL_same | (apply getL_skip; with_unfolding_all decide; k_clsL))
  | (with_reducible show Sg.m (Sg.put _ _ _) _ = some _; apply putM; k_clsL)
  | (with_reducible show Sg.m (Sg.del _ _) _ = some _; apply delM; k_clsL)
  | (with_reducible show Sg.m (Sg.setM _ _) _ = some _; apply setMM; k_clsL)
  | (apply viaM; with_reducible assumption; k_clsL)
  | (apply viaE; with_reducible assumption; k_clsL))
local macro_rules | `(tactic| k_offL) => `(tactic| first
  | with_reducible assumption
  | with_reducible exact Ext.rfl
  | (with_reducible show Ext _ (Sg.setL _ _ _); refine Ext.setL ?_; k_offL)
  | (with_reducible show Ext _ (Sg.put _ _ _); refine Ext.put ?_ (by first | with_reducible assumption | with_reducible exact setA (by with_reducible assumption)); k_offL)
  | (with_reducible show Ext _ (Sg.setM _ _); refine Ext.setM ?_; k_offL)
  | (with_reducible refine Ext.tr (by with_reducible assumption) ?_; k_offL)
  | (with_reducible refine Ext.tr2 (by with_reducible assumption) ?_; k_offL))
local macro_rules | `(tactic| k_places) => `(tactic| first
  | with_reducible assumption
  | with_reducible exact putA_same
  | (with_reducible show Sg.at_ (Sg.setL _ _ _) _ = some _; apply setA; k_places)
  | (with_reducible show Sg.at_ (Sg.setM _ _) _ = some _; apply setMA; k_places)
  | (with_reducible show Sg.at_ (Sg.put _ _ _) _ = some _; apply putA_new; with_reducible assumption; k_places)
  | (apply ESt.at_; with_reducible assumption; k_places)
  | (apply Ext.at'; with_reducible assumption; k_places))
local macro_rules | `(tactic| k_subL) => `(tactic| first
  | (with_reducible show W _ _ _ _ (spliced (backTo _ (starEach [] _))) _ _; refine w_items0 ?_)
  | (with_reducible show W _ _ _ _ (spliced (backTo _ (starEach (_ :: _) _))) _ _; refine w_items ?_)
  | (with_reducible show W _ _ _ _ (eval (Expr.Name _ _) _) _ _; first | refine w_local (by with_unfolding_all rfl) (by k_clsL) ?_ | refine w_cell (by with_unfolding_all rfl) (by k_places) ?_ | (with_reducible show W _ _ _ _ (eval (Expr.Name ("Tree" : Str) _) _) _ _; refine w_glob (v := .ref 142) (by assumption) (by kernel_rfl) ?_) | (with_reducible show W _ _ _ _ (eval (Expr.Name ("Token" : Str) _) _) _ _; refine w_glob (v := .ref 45) (by assumption) (by kernel_rfl) ?_))
  | (with_reducible show W _ _ _ _ (eval (Expr.Call (Expr.Name ("isinstance" : Str) _) _ [] _) _) _ _; refine w_callB (n := "isinstance") (by assumption) boot_isi (by kernel_rfl) ?_)
  | (with_reducible show W _ _ _ _ (eval (Expr.Call (Expr.Name ("len" : Str) _) _ [] _) _) _ _; refine w_callB (n := "len") (by assumption) boot_len (by kernel_rfl) ?_)
  | (with_reducible show W _ _ _ _ (eval (Expr.Call (Expr.Name ("min" : Str) _) _ [] _) _) _ _; refine w_callB (n := "min") (by assumption) boot_min (by kernel_rfl) ?_)
  | (with_reducible show W _ _ _ _ (eval (Expr.Call (Expr.Name ("range" : Str) _) _ [] _) _) _ _; refine w_callT (n := "range") (by assumption) boot_range (by kernel_rfl) ?_)
  | (with_reducible show W _ _ _ _ (eval (Expr.Call (Expr.Name ("str" : Str) _) _ [] _) _) _ _; refine w_callT (n := "str") (by assumption) boot_str (by kernel_rfl) ?_)
  | (with_reducible show W _ _ _ _ (eval (Expr.Call (Expr.Name ("list" : Str) _) _ [] _) _) _ _; refine w_callT (n := "list") (by assumption) boot_list (by kernel_rfl) ?_)
  | (with_reducible show W _ _ _ _ (eval (Expr.Call (Expr.Name ("reversed" : Str) _) _ [] _) _) _ _; refine w_callT (n := "reversed") (by assumption) boot_rev (by kernel_rfl) ?_)
  | (with_reducible show W _ _ _ _ (eval (Expr.Call (Expr.Name ("filter" : Str) _) _ [] _) _) _ _; refine w_callT (n := "filter") (by assumption) boot_filter (by kernel_rfl) ?_)
  | (with_reducible show W _ _ _ _ (call (.builtin "len") [.ref _]) _ _; (refine w_len (by k_places) ?_ fun _ => ?_); rotate_left)
  | (with_reducible show W _ _ _ _ (binaryOp .Add (.int _ _) (.int _ _)) _ _; refine w_addI fun _ => ?_)
  | (with_reducible show W _ _ _ _ (binaryOp .Sub (.int _ _) (.int _ _)) _ _; refine w_subI fun _ => ?_)
  | (with_reducible show W _ _ _ _ (compareOp .Eq (.int _ _) (.int _ _)) _ _; refine w_eqI ?_)
  | (with_reducible show W _ _ _ _ (compareOp .NotEq (.int _ _) (.int _ _)) _ _; refine w_neI ?_)
  | (with_reducible show W _ _ _ _ (compareOp .Lt (.int _ _) (.int _ _)) _ _; refine w_ltI ?_)
  | (with_reducible show W _ _ _ _ (compareOp .Eq (.str _ _) (.str _ _)) _ _; refine w_eqS ?_)
  | (with_reducible show W _ _ _ _ (compareOp .NotEq (.bool _) (.bool _)) _ _; refine w_neB ?_)
  | (with_reducible show W _ _ _ _ (unaryOp .USub (.int _ _)) _ _; refine w_negI fun _ => ?_)
  | (with_reducible show W _ _ _ _ (unaryOp .Not _) _ _; refine w_notv ?_)
  | (with_reducible show W _ _ _ _ (eval (Expr.Attribute _ _ _) _) _ _; refine w_attr ?_)
  | (with_reducible show W _ _ _ _ (eval (Expr.List _ _) _) _ _; refine w_list ?_)
  | (with_reducible show W _ _ _ _ (eval (Expr.Tuple _ _ _) _) _ _; refine w_tuple ?_)
  | (with_reducible show W _ _ _ _ (eval (Expr.BinOp _ _ _ _) _) _ _; refine w_binop ?_)
  | (with_reducible show W _ _ _ _ (eval (Expr.Compare _ [_] [_] _) _) _ _; refine w_cmp ?_)
  | (with_reducible show W _ _ _ _ (eval (Expr.IfExp _ _ _ _) _) _ _; refine w_ifexp ?_)
  | (with_reducible show W _ _ _ _ (eval (Expr.Subscript _ _ _) _) _ _; refine w_sub ?_)
  | (with_reducible show W _ _ _ _ (eval (Expr.UnaryOp _ _ _) _) _ _; refine w_unop ?_)
  | (with_reducible show W _ _ _ _ (eval (Expr.Constant .none _ _) _) _ _; refine w_none ?_)
  | (with_reducible show W _ _ _ _ (eval (Expr.Constant (.bool _) _ _) _) _ _; refine w_tf ?_)
  | (with_reducible show W _ _ _ _ (eval (Expr.Constant (.int _) _ _) _) _ _; refine w_int ?_; intro _)
  | (with_reducible show W _ _ _ _ (eval (Expr.Constant (.str _) _ _) _) _ _; refine w_str ?_; intro _)
  | (with_reducible show W _ _ _ _ (execs [] _) _ _; refine w_nil ?_)
  | (with_reducible show W _ _ _ _ (execs (Stmt.Assign [Expr.Name _ _] (Expr.ListComp _ [Comprehension.mk _ _ _ _] _ _) _ :: _) _) _ _; refine w_cons (w_assignComp ?_))
  | (with_reducible show W _ _ _ _ (execs (Stmt.Assign [Expr.Name _ _] _ _ :: _) _) _ _; refine w_consA ?_)
  | (with_reducible show W _ _ _ _ (execs (Stmt.Assign [Expr.Attribute _ _ _] _ _ :: _) _) _ _; refine w_consAttr ?_)
  | (with_reducible show W _ _ _ _ (execs (Stmt.Assign [Expr.Subscript _ _ _] _ _ :: _) _) _ _; refine w_consSub ?_)
  | (with_reducible show W _ _ _ _ (execs (Stmt.If _ _ [] _ :: _) _) _ _; refine w_consIf ?_)
  | (with_reducible show W _ _ _ _ (execs (Stmt.If _ _ _ _ :: _) _) _ _; refine w_consElse ?_)
  | (with_reducible show W _ _ _ _ (execs (Stmt.Return (some _) _ :: _) _) _ _; refine w_consRet ?_)
  | (with_reducible show W _ _ _ _ (execs (Stmt.Break _ :: _) _) _ _; refine w_consBrk ?_)
  | (with_reducible show W _ _ _ _ (execs (Stmt.Continue _ :: _) _) _ _; refine w_consCont ?_)
  | (with_reducible show W _ _ _ _ (execs (Stmt.Expr (Expr.Call (Expr.Attribute _ _ _) [_] [] _) _ :: _) _) _ _; refine w_consApp ?_)
  | (with_reducible show W _ _ _ _ (execs (Stmt.Expr _ _ :: _) _) _ _; refine w_consE ?_)
  | (with_reducible show W _ _ _ _ (isTrue (Expr.UnaryOp .Not _ _) _ _) _ _; refine w_not ?_)
  | (with_reducible show W _ _ _ _ (isTrue (Expr.BoolOp _ _ _) _ _) _ _; refine w_bool ?_)
  | (with_reducible show W _ _ _ _ (allTrue .And [] _) _ _; refine w_andNil ?_)
  | (with_reducible show W _ _ _ _ (allTrue .Or [] _) _ _; refine w_orNil ?_)
  | (with_reducible show W _ _ _ _ (allTrue .And (_ :: _) _) _ _; refine w_and ?_)
  | (with_reducible show W _ _ _ _ (allTrue .Or (_ :: _) _) _ _; refine w_or ?_)
  | (with_reducible show W _ _ _ _ (isTrue (Expr.Compare _ [_] [_] _) _ _) _ _; refine w_tcmp ?_)
  | (with_reducible show W _ _ _ _ (isTrue _ _ _) _ _; refine w_tval ?_)
  | (with_reducible show W _ _ _ _ (storeName _ _ _) _ _; first | refine w_storeL (by with_unfolding_all rfl) ?_ | refine w_storeC (by with_unfolding_all rfl) (by k_places) ?_)
  | (with_reducible show W _ _ _ _ (tests [_] _) _ _; refine w_tests1 ?_)
  | (with_reducible show W _ _ _ _ (tests [] _) _ _; refine w_tests0 ?_)
  | (with_reducible show W _ _ _ _ (eval (Expr.ListComp _ [Comprehension.mk _ _ _ _] _ _) _) _ _; refine w_listcomp ?_)
  | (with_reducible show W _ _ _ _ (truthy (.bool _)) _ _; refine w_truthyB ?_)
  | (with_reducible show thenK _ _ Flow.next _; refine thenK_next ?_)
  | (with_reducible show thenK _ _ Flow.brk _; refine thenK_brk ?_)
  | (with_reducible show thenK _ _ Flow.cont _; refine thenK_cont ?_)
  | (with_reducible show thenK _ _ (Flow.ret _) _; refine thenK_ret ?_)
  | (with_reducible show turnK _ _ _ Flow.next _; refine turnK_next ?_)
  | (with_reducible show turnK _ _ _ Flow.brk _; refine turnK_brk ?_)
  | (with_reducible show turnK _ _ _ Flow.cont _; refine turnK_cont ?_)
  | (with_reducible show turnK _ _ _ (Flow.ret _) _; refine turnK_ret ?_))

theorem NdAt.obj {σ : Sg} {a : Addr} {nd : Nd} (h : NdAt σ a nd) : ∃ C d, σ.at_ a = some (.obj (instObj C d)) := by
  cases nd with
  | node d l nm ks => obtain ⟨⟨t, h1, h2⟩, h3⟩ := h; exact ⟨_, _, h1⟩
  | tok d k v => obtain ⟨t, u, h1, h2⟩ := h; exact ⟨_, _, h1⟩
/-- what stands as a tree or a token -/
def Th (σ : Sg) (a : Addr) : Prop := ∃ C d, σ.at_ a = some (.obj (instObj C d))
theorem Th.ext {σ τ : Sg} {a : Addr} (h : Th σ a) (e : Ext σ τ) : Th τ a := let ⟨C, d, q⟩ := h; ⟨C, d, e.at_ _ _ q⟩

theorem c_alike {b : Base} (G : Glb b) {A : Around} {F : Fs} {L : Addr} {σ : Sg} {n : Nat} {ls lo : Addr} {xs ys : List Addr} (R : Rm A (n + 1)) (hs : σ.at_ ls = some (.lst (xs.map .ref))) (ho : σ.at_ lo = some (.lst (ys.map .ref)))
    (hx : ∀ a ∈ xs, Th σ a) (hy : ∀ a ∈ ys, Th σ a) (hz : xs.length ≤ 2 ^ 20 ∧ ys.length ≤ 2 ^ 20) :
    WC b A F L (.call (.ref 174) ⟨[.ref ls, .ref lo], []⟩) σ fun v σ' => v = .bool (decide (xs = ys)) ∧ ESt σ σ' := by
  refine wc_fn1 (fd := fAlike.1) (binds := [("some", Value.ref ls), ("others", Value.ref lo)]) G (fAlike.2 _) (by kernel_rfl) rfl R.dep rfl fun L' => ?_
  show W _ _ _ _ _ _ _
  repeat k_subL
  rotate_left
  · simp; omega
  · simp; omega
  refine ⟨fun h => ?_, fun h => ?_⟩
  · repeat k_subL
    refine ⟨?_, ⟨by k_offL, rfl⟩⟩
    have : xs ≠ ys := fun e => by subst e; simp at h
    simp [this, retOf]
  have hlen : xs.length = ys.length := by
    have : (xs.length : Int) = ys.length := by simpa using h
    omega
  refine w_forRange R.deeper.hh xs.length 0 1 (fun i τ => Ext σ τ ∧ τ.m "some" = some (.ref ls) ∧ τ.m "others" = some (.ref lo) ∧ xs.take i = ys.take i) ?_
  repeat k_subL
  rotate_left
  · simp; omega
  refine w_range1 fun r t u v hr => ?_
  refine ⟨r, _, t, u, v, rfl, putA_same, ?_, ?_, ⟨by k_offL, by k_clsL, by k_clsL, rfl⟩, fun i t τ Fa hi ⟨hE, h1, h2, h3⟩ => ?_, fun τ ⟨hE, h1, h2, h3⟩ => ?_⟩
  · have := (range_up 0 xs.length (by omega) (by omega)).1; simpa using this
  · have := (range_up 0 xs.length (by omega) (by omega)).2; simpa using this
  · rw [show (0 : Int) + (i : Int) * 1 = (i : Int) by omega]
    repeat k_subL
    refine w_item (v := .ref xs[i]) (hE.at_ _ _ hs) (by simp [hi]) (by simp; omega) ?_
    repeat k_subL
    refine w_item (v := .ref ys[i]) (hE.at_ _ _ ho) (by simp [hlen ▸ hi]) (by simp; omega) ?_
    obtain ⟨C, d, q1⟩ := hx xs[i] (List.getElem_mem _)
    obtain ⟨C', d', q2⟩ := hy ys[i] (List.getElem_mem _)
    refine w_isNot (hE.at_ _ _ q1) (hE.at_ _ _ q2) ?_
    repeat k_subL
    refine ⟨fun hb => ?_, fun hb => ?_⟩
    · repeat k_subL
      refine ⟨?_, ⟨by k_offL, rfl⟩⟩
      have : xs ≠ ys := fun e => by subst e; simp at hb
      simp [this, retOf]
    · repeat k_subL
      refine ⟨by k_offL, by k_clsL, by k_clsL, ?_⟩
      have e : xs[i] = ys[i]'(hlen ▸ hi) := by simpa using hb
      rw [List.take_add_one, List.take_add_one, h3, List.getElem?_eq_getElem hi, List.getElem?_eq_getElem (hlen ▸ hi), e]
  · repeat k_subL
    refine ⟨?_, ⟨by k_offL, rfl⟩⟩
    rw [List.take_length, hlen, List.take_length] at h3
    simp [h3, retOf]
end PartB3

section PartB4
open PySem PySem.W PyProof.Rows PySem.Calls
set_option maxRecDepth 100000
set_option maxHeartbeats 4000000
set_option linter.unusedVariables false

theorem W.ofPure {b : Base} {A : Around} {F : Fs} {L : Addr} {σ : Sg} {α : Type} {t : Sem α} {a : α} {Q : α → Sg → Prop} (e : t = Pure.pure a) (h : Q a σ) : W b A F L t σ Q := by rw [e]; exact W.pure h
theorem Inst.put {σ : Sg} {x C d : Addr} {es es' : List (Str × Value)} (h : Inst σ x C d es) : Inst (σ.put d (.dct es')) x C d es' := by
  have hne : x ≠ d := fun e => by rw [Inst, e, h.2] at h; exact absurd h.1 (by rintro ⟨⟩)
  exact ⟨putA_ne hne h.1, putA_same⟩

local macro_rules | `(tactic| k_clsL) => `(tactic| first
  | with_reducible assumption
  | (with_reducible show Sg.m (Sg.setL _ _ _) _ = some _; first | with_reducible exact getL_same | (apply getL_skip; with_unfolding_all decide; k_clsL))
  | (with_reducible show Sg.m (Sg.put _ _ _) _ = some _; apply putM; k_clsL)
  | (with_reducible show Sg.m (Sg.del _ _) _ = some _; apply delM; k_clsL)
  | (with_reducible show Sg.m (Sg.setM _ _) _ = some _; apply setMM; k_clsL)
  | (apply viaM; with_reducible assumption; k_clsL)
  | (apply viaE; with_reducible assumption; k_clsL))
local macro_rules | `(tactic| k_offL) => `(tactic| first
  | with_reducible assumption
  | with_reducible exact Ext.rfl
  | (with_reducible show Ext _ (Sg.setL _ _ _); refine Ext.setL ?_; k_offL)
  | (with_reducible show Ext _ (Sg.put _ _ _); refine Ext.put ?_ (by first | with_reducible assumption | with_reducible exact setA (by with_reducible assumption)); k_offL)
  | (with_reducible show Ext _ (Sg.setM _ _); refine Ext.setM ?_; k_offL)
  | (with_reducible refine Ext.tr (by with_reducible assumption) ?_; k_offL)
  | (with_reducible refine Ext.tr2 (by with_reducible assumption) ?_; k_offL))
local macro_rules | `(tactic| k_places) => `(tactic| first
  | with_reducible assumption
  | with_reducible exact putA_same
  | (with_reducible show Sg.at_ (Sg.setL _ _ _) _ = some _; apply setA; k_places)
  | (with_reducible show Sg.at_ (Sg.setM _ _) _ = some _; apply setMA; k_places)
  | (with_reducible show Sg.at_ (Sg.put _ _ _) _ = some _; apply putA_new; with_reducible assumption; k_places)
  | (apply ESt.at_; with_reducible assumption; k_places)
  | (apply Ext.at'; with_reducible assumption; k_places))
local macro_rules | `(tactic| k_subL) => `(tactic| first
  | (with_reducible show W _ _ _ _ (spliced (backTo _ (starEach [] _))) _ _; refine w_items0 ?_)
  | (with_reducible show W _ _ _ _ (spliced (backTo _ (starEach (_ :: _) _))) _ _; refine w_items ?_)
  | (with_reducible show W _ _ _ _ (eval (Expr.Name _ _) _) _ _; first | refine w_local (by with_unfolding_all rfl) (by k_clsL) ?_ | refine w_cell (by with_unfolding_all rfl) (by k_places) ?_ | (with_reducible show W _ _ _ _ (eval (Expr.Name ("Tree" : Str) _) _) _ _; refine w_glob (v := .ref 142) (by assumption) (by kernel_rfl) ?_) | (with_reducible show W _ _ _ _ (eval (Expr.Name ("Token" : Str) _) _) _ _; refine w_glob (v := .ref 45) (by assumption) (by kernel_rfl) ?_))
  | (with_reducible show W _ _ _ _ (eval (Expr.Call (Expr.Name ("isinstance" : Str) _) _ [] _) _) _ _; refine w_callB (n := "isinstance") (by assumption) boot_isi (by kernel_rfl) ?_)
  | (with_reducible show W _ _ _ _ (eval (Expr.Call (Expr.Name ("len" : Str) _) _ [] _) _) _ _; refine w_callB (n := "len") (by assumption) boot_len (by kernel_rfl) ?_)
  | (with_reducible show W _ _ _ _ (eval (Expr.Call (Expr.Name ("min" : Str) _) _ [] _) _) _ _; refine w_callB (n := "min") (by assumption) boot_min (by kernel_rfl) ?_)
  | (with_reducible show W _ _ _ _ (eval (Expr.Call (Expr.Name ("range" : Str) _) _ [] _) _) _ _; refine w_callT (n := "range") (by assumption) boot_range (by kernel_rfl) ?_)
  | (with_reducible show W _ _ _ _ (eval (Expr.Call (Expr.Name ("str" : Str) _) _ [] _) _) _ _; refine w_callT (n := "str") (by assumption) boot_str (by kernel_rfl) ?_)
  | (with_reducible show W _ _ _ _ (eval (Expr.Call (Expr.Name ("list" : Str) _) _ [] _) _) _ _; refine w_callT (n := "list") (by assumption) boot_list (by kernel_rfl) ?_)
  | (with_reducible show W _ _ _ _ (eval (Expr.Call (Expr.Name ("reversed" : Str) _) _ [] _) _) _ _; refine w_callT (n := "reversed") (by assumption) boot_rev (by kernel_rfl) ?_)
  | (with_reducible show W _ _ _ _ (eval (Expr.Call (Expr.Name ("filter" : Str) _) _ [] _) _) _ _; refine w_callT (n := "filter") (by assumption) boot_filter (by kernel_rfl) ?_)
  | (with_reducible show W _ _ _ _ (call (.builtin "len") [.ref _]) _ _; (refine w_len (by k_places) ?_ fun _ => ?_); rotate_left)
  | (with_reducible show W _ _ _ _ (binaryOp .Add (.int _ _) (.int _ _)) _ _; refine w_addI fun _ => ?_)
  | (with_reducible show W _ _ _ _ (binaryOp .Sub (.int _ _) (.int _ _)) _ _; refine w_subI fun _ => ?_)
  | (with_reducible show W _ _ _ _ (compareOp .Eq (.int _ _) (.int _ _)) _ _; refine w_eqI ?_)
  | (with_reducible show W _ _ _ _ (compareOp .NotEq (.int _ _) (.int _ _)) _ _; refine w_neI ?_)
  | (with_reducible show W _ _ _ _ (compareOp .Lt (.int _ _) (.int _ _)) _ _; refine w_ltI ?_)
  | (with_reducible show W _ _ _ _ (compareOp .Eq (.str _ _) (.str _ _)) _ _; refine w_eqS ?_)
  | (with_reducible show W _ _ _ _ (compareOp .NotEq (.bool _) (.bool _)) _ _; refine w_neB ?_)
  | (with_reducible show W _ _ _ _ (unaryOp .USub (.int _ _)) _ _; refine w_negI fun _ => ?_)
  | (with_reducible show W _ _ _ _ (unaryOp .Not _) _ _; refine w_notv ?_)
  | (with_reducible show W _ _ _ _ (eval (Expr.Attribute _ _ _) _) _ _; refine w_attr ?_)
  | (with_reducible show W _ _ _ _ (eval (Expr.List _ _) _) _ _; refine w_list ?_)
  | (with_reducible show W _ _ _ _ (eval (Expr.Tuple _ _ _) _) _ _; refine w_tuple ?_)
  | (with_reducible show W _ _ _ _ (eval (Expr.BinOp _ _ _ _) _) _ _; refine w_binop ?_)
  | (with_reducible show W _ _ _ _ (eval (Expr.Compare _ [_] [_] _) _) _ _; refine w_cmp ?_)
  | (with_reducible show W _ _ _ _ (eval (Expr.IfExp _ _ _ _) _) _ _; refine w_ifexp ?_)
  | (with_reducible show W _ _ _ _ (eval (Expr.Subscript _ _ _) _) _ _; refine w_sub ?_)
  | (with_reducible show W _ _ _ _ (eval (Expr.UnaryOp _ _ _) _) _ _; refine w_unop ?_)
  | (with_reducible show W _ _ _ _ (eval (Expr.Constant .none _ _) _) _ _; refine w_none ?_)
  | (with_reducible show W _ _ _ _ (eval (Expr.Constant (.bool _) _ _) _) _ _; refine w_tf ?_)
  | (with_reducible show W _ _ _ _ (eval (Expr.Constant (.int _) _ _) _) _ _; refine w_int ?_; intro _)
  | (with_reducible show W _ _ _ _ (eval (Expr.Constant (.str _) _ _) _) _ _; refine w_str ?_; intro _)
  | (with_reducible show W _ _ _ _ (execs [] _) _ _; refine w_nil ?_)
  | (with_reducible show W _ _ _ _ (execs (Stmt.Assign [Expr.Name _ _] (Expr.ListComp _ [Comprehension.mk _ _ _ _] _ _) _ :: _) _) _ _; refine w_cons (w_assignComp ?_))
  | (with_reducible show W _ _ _ _ (execs (Stmt.Assign [Expr.Name _ _] _ _ :: _) _) _ _; refine w_consA ?_)
  | (with_reducible show W _ _ _ _ (execs (Stmt.Assign [Expr.Attribute _ _ _] _ _ :: _) _) _ _; refine w_consAttr ?_)
  | (with_reducible show W _ _ _ _ (execs (Stmt.Assign [Expr.Subscript _ _ _] _ _ :: _) _) _ _; refine w_consSub ?_)
  | (with_reducible show W _ _ _ _ (execs (Stmt.If _ _ [] _ :: _) _) _ _; refine w_consIf ?_)
  | (with_reducible show W _ _ _ _ (execs (Stmt.If _ _ _ _ :: _) _) _ _; refine w_consElse ?_)
  | (with_reducible show W _ _ _ _ (execs (Stmt.Return (some _) _ :: _) _) _ _; refine w_consRet ?_)
  | (with_reducible show W _ _ _ _ (execs (Stmt.Break _ :: _) _) _ _; refine w_consBrk ?_)
  | (with_reducible show W _ _ _ _ (execs (Stmt.Continue _ :: _) _) _ _; refine w_consCont ?_)
  | (with_reducible show W _ _ _ _ (execs (Stmt.Expr (Expr.Call (Expr.Attribute _ _ _) [_] [] _) _ :: _) _) _ _; refine w_consApp ?_)
  | (with_reducible show W _ _ _ _ (execs (Stmt.Expr _ _ :: _) _) _ _; refine w_consE ?_)
  | (with_reducible show W _ _ _ _ (isTrue (Expr.UnaryOp .Not _ _) _ _) _ _; refine w_not ?_)
  | (with_reducible show W _ _ _ _ (isTrue (Expr.BoolOp _ _ _) _ _) _ _; refine w_bool ?_)
  | (with_reducible show W _ _ _ _ (allTrue .And [] _) _ _; refine w_andNil ?_)
  | (with_reducible show W _ _ _ _ (allTrue .Or [] _) _ _; refine w_orNil ?_)
  | (with_reducible show W _ _ _ _ (allTrue .And (_ :: _) _) _ _; refine w_and ?_)
  | (with_reducible show W _ _ _ _ (allTrue .Or (_ :: _) _) _ _; refine w_or ?_)
  | (with_reducible show W _ _ _ _ (isTrue (Expr.Compare _ [_] [_] _) _ _) _ _; refine w_tcmp ?_)
  | (with_reducible show W _ _ _ _ (isTrue _ _ _) _ _; refine w_tval ?_)
  | (with_reducible show W _ _ _ _ (storeName _ _ _) _ _; first | refine w_storeL (by with_unfolding_all rfl) ?_ | refine w_storeC (by with_unfolding_all rfl) (by k_places) ?_)
  | (with_reducible show W _ _ _ _ (tests [_] _) _ _; refine w_tests1 ?_)
  | (with_reducible show W _ _ _ _ (tests [] _) _ _; refine w_tests0 ?_)
  | (with_reducible show W _ _ _ _ (eval (Expr.ListComp _ [Comprehension.mk _ _ _ _] _ _) _) _ _; refine w_listcomp ?_)
  | (with_reducible show W _ _ _ _ (truthy (.bool _)) _ _; refine w_truthyB ?_)
  | (with_reducible show thenK _ _ Flow.next _; refine thenK_next ?_)
  | (with_reducible show thenK _ _ Flow.brk _; refine thenK_brk ?_)
  | (with_reducible show thenK _ _ Flow.cont _; refine thenK_cont ?_)
  | (with_reducible show thenK _ _ (Flow.ret _) _; refine thenK_ret ?_)
  | (with_reducible show turnK _ _ _ Flow.next _; refine turnK_next ?_)
  | (with_reducible show turnK _ _ _ Flow.brk _; refine turnK_brk ?_)
  | (with_reducible show turnK _ _ _ Flow.cont _; refine turnK_cont ?_)
  | (with_reducible show turnK _ _ _ (Flow.ret _) _; refine turnK_ret ?_))

def treeEs (dv cv : Value) : List (Str × Value) := [("data", dv), ("children", cv), ("_meta", .none)]
def tokEs (kv vv : Value) : List (Str × Value) := [("type", kv), ("value", vv)]
/-- only d's entries have changed -/
def OnlyD (σ σ' : Sg) (d : Addr) : Prop := (∀ a c, a ≠ d → σ.at_ a = some c → σ'.at_ a = some c) ∧ σ'.gens = σ.gens ∧ σ'.m = σ.m

theorem c_init {b : Base} (G : Glb b) {A : Around} {F : Fs} {L : Addr} {σ : Sg} {x d : Addr} {dv cv : Value} (hd : A.depth < recursionLimit) (I : Inst σ x 142 d []) :
    WC b A F L (.call (.ref 64) ⟨[.ref x, dv, cv], []⟩) σ fun v σ' => v = .none ∧ Inst σ' x 142 d (treeEs dv cv) ∧ OnlyD σ σ' d := by
  refine wc_fn (fd := fInit.1) G (fInit.2 _) (by kernel_rfl) rfl hd ?_
  refine W.bind (t := seqItems? (.ref 57)) (w_seqK G (xs := #[.none]) (n := 0) (o := { cls := .type "tuple", data := .seq #[.none] }) (by kernel_rfl) rfl ?_)
  refine W.ofPure (a := ([("self", Value.ref x), ("data", dv), ("children", cv), ("meta", .none)] : List (Str × Value))) ?he ?_
  case he => kernel_rfl
  intro L'
  show W _ _ _ _ _ _ _
  repeat k_subL
  refine w_setAttr (name := "data") (d := d) (es := []) G (cls142 b) I (by kernel_rfl) (by simp) ?_
  repeat k_subL
  refine w_setAttr (name := "children") (d := d) (es := [("data", dv)]) G (cls142 b) (Inst.put I) (by kernel_rfl) (by simp) ?_
  repeat k_subL
  refine w_setAttr (name := "_meta") (d := d) (es := [("data", dv), ("children", cv)]) G (cls142 b) (Inst.put (Inst.put I)) (by kernel_rfl) (by simp) ?_
  repeat k_subL
  refine ⟨rfl, Inst.put (Inst.put (Inst.put I)), fun a c n h => ?_, rfl, rfl⟩
  exact putA_ne n (putA_ne n (putA_ne n h))
theorem c_initTok {b : Base} (G : Glb b) {A : Around} {F : Fs} {L : Addr} {σ : Sg} {x d : Addr} {kv vv : Value} (hd : A.depth < recursionLimit) (I : Inst σ x 45 d []) :
    WC b A F L (.call (.ref 28) ⟨[.ref x, kv, vv], []⟩) σ fun v σ' => v = .none ∧ Inst σ' x 45 d (tokEs kv vv) ∧ OnlyD σ σ' d := by
  refine wc_fn1 (fd := fTokInit.1) (binds := [("self", Value.ref x), ("kind", kv), ("value", vv)]) G (fTokInit.2 _) (by kernel_rfl) rfl hd rfl fun L' => ?_
  show W _ _ _ _ _ _ _
  repeat k_subL
  refine w_setAttr (name := "type") (d := d) (es := []) G (cls45 b) I (by kernel_rfl) (by simp) ?_
  repeat k_subL
  refine w_setAttr (name := "value") (d := d) (es := [("type", kv)]) G (cls45 b) (Inst.put I) (by kernel_rfl) (by simp) ?_
  repeat k_subL
  refine ⟨rfl, Inst.put (Inst.put I), fun a c n h => ?_, rfl, rfl⟩
  exact putA_ne n (putA_ne n h)

/-- Tree(d, c) -/
theorem c_Tree {b : Base} (G : Glb b) {A : Around} {F : Fs} {L : Addr} {σ : Sg} {dv cv : Value} {n u : Nat} (R : Room A (n + 1) (u + 1)) :
    WC b A F L (.call (.ref 142) ⟨[dv, cv], []⟩) σ fun v σ' => ∃ x d, v = .ref x ∧ σ.at_ x = none ∧ σ.at_ d = none ∧ Inst σ' x 142 d (treeEs dv cv) ∧ ESt σ σ' := by
  refine wc_new G (cls142 b) (fI := 64) (by kernel_rfl) (by kernel_rfl) fun x d hx hd hne => ?_
  have RR := room_make R 142 [dv, cv] []
  refine WC.mono (c_init G (d := d) (by have := RR.depth; omega) ⟨putA_same, putA_ne (Ne.symm hne) putA_same⟩) fun v σ' ⟨hv, I, hO, hg, hm⟩ => ⟨hv, x, d, rfl, hx, hd, I, ⟨fun a c h => ?_, ⟨[], ?_, fun _ h => by cases h⟩⟩, hm⟩
  · have ha1 : a ≠ x := fun e => by rw [e, hx] at h; cases h
    have ha2 : a ≠ d := fun e => by rw [e, hd] at h; cases h
    exact hO a c ha2 (putA_ne ha1 (putA_ne ha2 h))
  · rw [hg]; simp [Sg.put]
theorem c_Token {b : Base} (G : Glb b) {A : Around} {F : Fs} {L : Addr} {σ : Sg} {kv vv : Value} {n u : Nat} (R : Room A (n + 1) (u + 1)) :
    WC b A F L (.call (.ref 45) ⟨[kv, vv], []⟩) σ fun v σ' => ∃ x d, v = .ref x ∧ σ.at_ x = none ∧ σ.at_ d = none ∧ Inst σ' x 45 d (tokEs kv vv) ∧ ESt σ σ' := by
  refine wc_new G (cls45 b) (fI := 28) (by kernel_rfl) (by kernel_rfl) fun x d hx hd hne => ?_
  have RR := room_make R 45 [kv, vv] []
  refine WC.mono (c_initTok G (d := d) (by have := RR.depth; omega) ⟨putA_same, putA_ne (Ne.symm hne) putA_same⟩) fun v σ' ⟨hv, I, hO, hg, hm⟩ => ⟨hv, x, d, rfl, hx, hd, I, ⟨fun a c h => ?_, ⟨[], ?_, fun _ h => by cases h⟩⟩, hm⟩
  · have ha1 : a ≠ x := fun e => by rw [e, hx] at h; cases h
    have ha2 : a ≠ d := fun e => by rw [e, hd] at h; cases h
    exact hO a c ha2 (putA_ne ha1 (putA_ne ha2 h))
  · rw [hg]; simp [Sg.put]
end PartB4

section PartB5
open PySem PySem.W PyProof.Rows PySem.Calls
set_option maxRecDepth 100000
set_option maxHeartbeats 4000000
set_option linter.unusedVariables false

local macro_rules | `(tactic| k_clsL) => `(tactic| first
  | with_reducible assumption
  | (with_reducible show Sg.m (Sg.setL _ _ _) _ = some _; first | with_reducible exact getL_same | (apply getL_skip; with_unfolding_all decide; k_clsL))
  | (with_reducible show Sg.m (Sg.put _ _ _) _ = some _; apply putM; k_clsL)
  | (with_reducible show Sg.m (Sg.del _ _) _ = some _; apply delM; k_clsL)
  | (with_reducible show Sg.m (Sg.setM _ _) _ = some _; apply setMM; k_clsL)
  | (apply viaM; with_reducible assumption; k_clsL)
  | (apply viaE; with_reducible assumption; k_clsL))
local macro_rules | `(tactic| k_offL) => `(tactic| first
  | with_reducible assumption
  | with_reducible exact Ext.rfl
  | (with_reducible show Ext _ (Sg.setL _ _ _); refine Ext.setL ?_; k_offL)
  | (with_reducible show Ext _ (Sg.put _ _ _); refine Ext.put ?_ (by first | with_reducible assumption | with_reducible exact setA (by with_reducible assumption)); k_offL)
  | (with_reducible show Ext _ (Sg.setM _ _); refine Ext.setM ?_; k_offL)
  | (with_reducible refine Ext.tr (by with_reducible assumption) ?_; k_offL)
  | (with_reducible refine Ext.tr2 (by with_reducible assumption) ?_; k_offL))
local macro_rules | `(tactic| k_places) => `(tactic| first
  | with_reducible assumption
  | with_reducible exact putA_same
  | (with_reducible show Sg.at_ (Sg.setL _ _ _) _ = some _; apply setA; k_places)
  | (with_reducible show Sg.at_ (Sg.setM _ _) _ = some _; apply setMA; k_places)
  | (with_reducible show Sg.at_ (Sg.put _ _ _) _ = some _; apply putA_new; with_reducible assumption; k_places)
  | (apply ESt.at_; with_reducible assumption; k_places)
  | (apply Ext.at'; with_reducible assumption; k_places))
local macro_rules | `(tactic| k_subL) => `(tactic| first
  | (with_reducible show W _ _ _ _ (spliced (backTo _ (starEach [] _))) _ _; refine w_items0 ?_)
  | (with_reducible show W _ _ _ _ (spliced (backTo _ (starEach (_ :: _) _))) _ _; refine w_items ?_)
  | (with_reducible show W _ _ _ _ (eval (Expr.Name _ _) _) _ _; first | refine w_local (by with_unfolding_all rfl) (by k_clsL) ?_ | refine w_cell (by with_unfolding_all rfl) (by k_places) ?_ | (with_reducible show W _ _ _ _ (eval (Expr.Name ("Tree" : Str) _) _) _ _; refine w_glob (v := .ref 142) (by assumption) (by kernel_rfl) ?_) | (with_reducible show W _ _ _ _ (eval (Expr.Name ("Token" : Str) _) _) _ _; refine w_glob (v := .ref 45) (by assumption) (by kernel_rfl) ?_))
  | (with_reducible show W _ _ _ _ (eval (Expr.Call (Expr.Name ("isinstance" : Str) _) _ [] _) _) _ _; refine w_callB (n := "isinstance") (by assumption) boot_isi (by kernel_rfl) ?_)
  | (with_reducible show W _ _ _ _ (eval (Expr.Call (Expr.Name ("len" : Str) _) _ [] _) _) _ _; refine w_callB (n := "len") (by assumption) boot_len (by kernel_rfl) ?_)
  | (with_reducible show W _ _ _ _ (eval (Expr.Call (Expr.Name ("min" : Str) _) _ [] _) _) _ _; refine w_callB (n := "min") (by assumption) boot_min (by kernel_rfl) ?_)
  | (with_reducible show W _ _ _ _ (eval (Expr.Call (Expr.Name ("range" : Str) _) _ [] _) _) _ _; refine w_callT (n := "range") (by assumption) boot_range (by kernel_rfl) ?_)
  | (with_reducible show W _ _ _ _ (eval (Expr.Call (Expr.Name ("str" : Str) _) _ [] _) _) _ _; refine w_callT (n := "str") (by assumption) boot_str (by kernel_rfl) ?_)
  | (with_reducible show W _ _ _ _ (eval (Expr.Call (Expr.Name ("list" : Str) _) _ [] _) _) _ _; refine w_callT (n := "list") (by assumption) boot_list (by kernel_rfl) ?_)
  | (with_reducible show W _ _ _ _ (eval (Expr.Call (Expr.Name ("reversed" : Str) _) _ [] _) _) _ _; refine w_callT (n := "reversed") (by assumption) boot_rev (by kernel_rfl) ?_)
  | (with_reducible show W _ _ _ _ (eval (Expr.Call (Expr.Name ("filter" : Str) _) _ [] _) _) _ _; refine w_callT (n := "filter") (by assumption) boot_filter (by kernel_rfl) ?_)
  | (with_reducible show W _ _ _ _ (call (.builtin "len") [.ref _]) _ _; (refine w_len (by k_places) ?_ fun _ => ?_); rotate_left)
  | (with_reducible show W _ _ _ _ (binaryOp .Add (.int _ _) (.int _ _)) _ _; refine w_addI fun _ => ?_)
  | (with_reducible show W _ _ _ _ (binaryOp .Sub (.int _ _) (.int _ _)) _ _; refine w_subI fun _ => ?_)
  | (with_reducible show W _ _ _ _ (compareOp .Eq (.int _ _) (.int _ _)) _ _; refine w_eqI ?_)
  | (with_reducible show W _ _ _ _ (compareOp .NotEq (.int _ _) (.int _ _)) _ _; refine w_neI ?_)
  | (with_reducible show W _ _ _ _ (compareOp .Lt (.int _ _) (.int _ _)) _ _; refine w_ltI ?_)
  | (with_reducible show W _ _ _ _ (compareOp .Eq (.str _ _) (.str _ _)) _ _; refine w_eqS ?_)
  | (with_reducible show W _ _ _ _ (compareOp .NotEq (.bool _) (.bool _)) _ _; refine w_neB ?_)
  | (with_reducible show W _ _ _ _ (unaryOp .USub (.int _ _)) _ _; refine w_negI fun _ => ?_)
  | (with_reducible show W _ _ _ _ (unaryOp .Not _) _ _; refine w_notv ?_)
  | (with_reducible show W _ _ _ _ (eval (Expr.Attribute _ _ _) _) _ _; refine w_attr ?_)
  | (with_reducible show W _ _ _ _ (eval (Expr.List _ _) _) _ _; refine w_list ?_)
  | (with_reducible show W _ _ _ _ (eval (Expr.Tuple _ _ _) _) _ _; refine w_tuple ?_)
  | (with_reducible show W _ _ _ _ (eval (Expr.BinOp _ _ _ _) _) _ _; refine w_binop ?_)
  | (with_reducible show W _ _ _ _ (eval (Expr.Compare _ [_] [_] _) _) _ _; refine w_cmp ?_)
  | (with_reducible show W _ _ _ _ (eval (Expr.IfExp _ _ _ _) _) _ _; refine w_ifexp ?_)
  | (with_reducible show W _ _ _ _ (eval (Expr.Subscript _ _ _) _) _ _; refine w_sub ?_)
  | (with_reducible show W _ _ _ _ (eval (Expr.UnaryOp _ _ _) _) _ _; refine w_unop ?_)
  | (with_reducible show W _ _ _ _ (eval (Expr.Constant .none _ _) _) _ _; refine w_none ?_)
  | (with_reducible show W _ _ _ _ (eval (Expr.Constant (.bool _) _ _) _) _ _; refine w_tf ?_)
  | (with_reducible show W _ _ _ _ (eval (Expr.Constant (.int _) _ _) _) _ _; refine w_int ?_; intro _)
  | (with_reducible show W _ _ _ _ (eval (Expr.Constant (.str _) _ _) _) _ _; refine w_str ?_; intro _)
  | (with_reducible show W _ _ _ _ (execs [] _) _ _; refine w_nil ?_)
  | (with_reducible show W _ _ _ _ (execs (Stmt.Assign [Expr.Name _ _] (Expr.ListComp _ [Comprehension.mk _ _ _ _] _ _) _ :: _) _) _ _; refine w_cons (w_assignComp ?_))
  | (with_reducible show W _ _ _ _ (execs (Stmt.Assign [Expr.Name _ _] _ _ :: _) _) _ _; refine w_consA ?_)
  | (with_reducible show W _ _ _ _ (execs (Stmt.Assign [Expr.Attribute _ _ _] _ _ :: _) _) _ _; refine w_consAttr ?_)
  | (with_reducible show W _ _ _ _ (execs (Stmt.Assign [Expr.Subscript _ _ _] _ _ :: _) _) _ _; refine w_consSub ?_)
  | (with_reducible show W _ _ _ _ (execs (Stmt.If _ _ [] _ :: _) _) _ _; refine w_consIf ?_)
  | (with_reducible show W _ _ _ _ (execs (Stmt.If _ _ _ _ :: _) _) _ _; refine w_consElse ?_)
  | (with_reducible show W _ _ _ _ (execs (Stmt.Return (some _) _ :: _) _) _ _; refine w_consRet ?_)
  | (with_reducible show W _ _ _ _ (execs (Stmt.Break _ :: _) _) _ _; refine w_consBrk ?_)
  | (with_reducible show W _ _ _ _ (execs (Stmt.Continue _ :: _) _) _ _; refine w_consCont ?_)
  | (with_reducible show W _ _ _ _ (execs (Stmt.Expr (Expr.Call (Expr.Attribute _ _ _) [_] [] _) _ :: _) _) _ _; refine w_consApp ?_)
  | (with_reducible show W _ _ _ _ (execs (Stmt.Expr _ _ :: _) _) _ _; refine w_consE ?_)
  | (with_reducible show W _ _ _ _ (isTrue (Expr.UnaryOp .Not _ _) _ _) _ _; refine w_not ?_)
  | (with_reducible show W _ _ _ _ (isTrue (Expr.BoolOp _ _ _) _ _) _ _; refine w_bool ?_)
  | (with_reducible show W _ _ _ _ (allTrue .And [] _) _ _; refine w_andNil ?_)
  | (with_reducible show W _ _ _ _ (allTrue .Or [] _) _ _; refine w_orNil ?_)
  | (with_reducible show W _ _ _ _ (allTrue .And (_ :: _) _) _ _; refine w_and ?_)
  | (with_reducible show W _ _ _ _ (allTrue .Or (_ :: _) _) _ _; refine w_or ?_)
  | (with_reducible show W _ _ _ _ (isTrue (Expr.Compare _ [_] [_] _) _ _) _ _; refine w_tcmp ?_)
  | (with_reducible show W _ _ _ _ (isTrue _ _ _) _ _; refine w_tval ?_)
  | (with_reducible show W _ _ _ _ (storeName _ _ _) _ _; first | refine w_storeL (by with_unfolding_all rfl) ?_ | refine w_storeC (by with_unfolding_all rfl) (by k_places) ?_)
  | (with_reducible show W _ _ _ _ (tests [_] _) _ _; refine w_tests1 ?_)
  | (with_reducible show W _ _ _ _ (tests [] _) _ _; refine w_tests0 ?_)
  | (with_reducible show W _ _ _ _ (eval (Expr.ListComp _ [Comprehension.mk _ _ _ _] _ _) _) _ _; refine w_listcomp ?_)
  | (with_reducible show W _ _ _ _ (truthy (.bool _)) _ _; refine w_truthyB ?_)
  | (with_reducible show thenK _ _ Flow.next _; refine thenK_next ?_)
  | (with_reducible show thenK _ _ Flow.brk _; refine thenK_brk ?_)
  | (with_reducible show thenK _ _ Flow.cont _; refine thenK_cont ?_)
  | (with_reducible show thenK _ _ (Flow.ret _) _; refine thenK_ret ?_)
  | (with_reducible show turnK _ _ _ Flow.next _; refine turnK_next ?_)
  | (with_reducible show turnK _ _ _ Flow.brk _; refine turnK_brk ?_)
  | (with_reducible show turnK _ _ _ Flow.cont _; refine turnK_cont ?_)
  | (with_reducible show turnK _ _ _ (Flow.ret _) _; refine turnK_ret ?_))

/-- the children, those of the named put in their places -/
def named (G : Gf) (nms : List Str) (a : Addr) : Option (List Addr) := match G a with
  | some (.node d l nm ks) => if nms.any (· == nm) then some ks else none
  | _ => none
def gopen (G : Gf) (nms : List Str) (ks : List Addr) : List Addr := ks.flatMap fun k => (named G nms k).getD [k]

theorem isTree_of {g : Gf} {a : Addr} {nd : Nd} (h : g a = some nd) : isTree g a = nd.isN := by unfold isTree; rw [h]; cases nd <;> rfl

theorem c_opened {b : Base} (G : Glb b) {g : Gf} {A : Around} {F : Fs} {L : Addr} {σ : Sg} {n : Nat} {a d l nt : Addr} {nm : Str} {ks : List Addr} {vs : List Value} {nms : List Str} (R : Rm A (n + 1)) (hG : Gr σ g) (e : g a = some (.node d l nm ks))
    (hk : ∀ c ∈ ks, ∃ nd, g c = some nd) (hn : σ.at_ nt = some (.obj (tupObj vs))) (hs : StrsAre vs nms) (hz : (gopen g nms ks).length ≤ 2 ^ 20) (hz2 : ∀ c ∈ ks, ∀ d l nm ks', g c = some (.node d l nm ks') → ks'.length ≤ 2 ^ 20) :
    WC b A F L (.call (.ref 186) ⟨[.ref a, .ref nt], []⟩) σ fun v σ' => ∃ r, v = .ref r ∧ σ.at_ r = none ∧ σ'.at_ r = some (.lst ((gopen g nms ks).map .ref)) ∧ ESt σ σ' := by
  unfold gopen at hz ⊢
  generalize hf : (fun k => (named g nms k).getD [k]) = f at hz ⊢
  refine wc_fn1 (fd := fOpened.1) (binds := [("tree", Value.ref a), ("names", Value.ref nt)]) G (fOpened.2 _) (by kernel_rfl) rfl R.dep rfl fun L' => ?_
  show W _ _ _ _ _ _ _
  repeat k_subL
  refine w_newList (by rw [sizeLine_eq]; simp) fun r hr => ?_
  repeat k_subL
  refine w_forE R.deeper.hh (fun i τ => Ext σ τ ∧ ∃ lf, σ.at_ lf = none ∧ τ.m "names" = some (.ref nt) ∧ τ.m "found" = some (.ref lf) ∧ τ.at_ lf = some (.lst (((ks.take i).flatMap f).map .ref))) ?_
  repeat k_subL
  refine w_children G ((hG a _ e).ext ?_) ?_
  · k_offL
  refine ⟨l, ks.map .ref, rfl, ⟨by k_offL, r, hr, by k_clsL, by k_clsL, by simpa using setA putA_same⟩, fun i τ h => ((hG a _ e).ext h.1).2, fun i v τ Fa ⟨hE, lf, hn', hnm, hf', hlf⟩ hv => ?_, fun τ ⟨hE, lf, hn', hnm, hf', hlf⟩ => ?_⟩
  · obtain ⟨c, rfl, hc⟩ := kidAt hv
    have hcm := List.mem_of_getElem? hc
    obtain ⟨nd, hnd⟩ := hk c hcm
    have hflat := flatTake (f := f) hc
    have hle := flatTakeLe (f := f) (ks := ks) (i := i + 1)
    rw [hflat, List.length_append] at hle
    refine w_storeL (by with_unfolding_all rfl) ?_
    refine w_consElse (W.mono (Q := fun t σ' => t = (named g nms c).isSome ∧ ESt (τ.setL "child" (.ref c)) σ') ?_ fun t σ' ⟨ht, hE'⟩ => ⟨fun h1 => ?_, fun h1 => ?_⟩)
    · repeat k_subL
      refine w_isTree (nd := nd) G ((hG c _ hnd).ext ?_) ?_
      · k_offL
      repeat k_subL
      refine ⟨fun ht => ?_, fun ht => ⟨?_, ESt.rfl⟩⟩
      · cases nd with
        | tok d k v => cases ht
        | node dc lc nc kc =>
          repeat k_subL
          refine w_data G ((hG c _ hnd).ext (by k_offL)) fun t => ?_
          repeat k_subL
          refine w_inT (hE.at_ _ _ hn) hs ?_
          repeat k_subL
          refine ⟨fun hb => ?_, fun hb => ⟨?_, ESt.rfl⟩⟩
          · repeat k_subL
            refine ⟨?_, ESt.rfl⟩
            unfold named; rw [hnd]; simp [hb]
          · unfold named; rw [hnd]; simp [hb]
      · unfold named; rw [hnd]; cases nd with
        | node => cases ht
        | tok => rfl
    · rw [h1] at ht
      obtain ⟨kc, hkc⟩ := Option.isSome_iff_exists.mp ht.symm
      obtain ⟨dc, lc, nc, hg⟩ : ∃ dc lc nc, g c = some (.node dc lc nc kc) := by
        unfold named at hkc; rw [hnd] at hkc; cases nd with
        | tok => cases hkc
        | node dc lc nc kc' =>
          simp only at hkc
          split at hkc
          · cases hkc; exact ⟨dc, lc, nc, hnd⟩
          · cases hkc
      have hfc : f c = kc := by rw [← hf]; simp only [hkc]; rfl
      rw [hfc] at hle hflat
      have hEσ : Ext σ σ' := by k_offL
      repeat k_subL
      refine w_children G ((hG c _ hg).ext hEσ) ?_
      repeat k_subL
      refine w_listOf ((hG c _ hg).ext hEσ).2 (by rw [sizeLine_eq]; simp only [List.length_map]; have := hz2 c hcm _ _ _ _ hg; omega) fun r2 hr2 => ?_
      refine w_addL (xs := ((ks.take i).flatMap f).map .ref) (ys := kc.map .ref) ?_ putA_same (by rw [sizeLine_eq]; simp only [List.length_map]; omega) fun r3 hr3 => ?_
      · k_places
      repeat k_subL
      refine ⟨?_, r3, ?_, ?_, ?_, ?_⟩
      · k_offL
      · cases q : σ.at_ r3 with
        | none => rfl
        | some cl =>
          have := (hEσ.put hr2 (c := .lst (kc.map .ref))).at_ _ _ q
          rw [this] at hr3; cases hr3
      · k_clsL
      · k_clsL
      · rw [hflat]
        refine setA ?_
        rw [putA_same]; simp
    · rw [h1] at ht
      have hkc : named g nms c = none := by cases q : named g nms c with
        | none => rfl
        | some _ => rw [q] at ht; cases ht
      have hfc : f c = [c] := by rw [← hf]; simp only [hkc]; rfl
      rw [hfc] at hle hflat
      have hEσ : Ext σ σ' := by k_offL
      repeat k_subL
      refine ⟨lf, ((ks.take i).flatMap f).map .ref, rfl, by k_places, ?_⟩
      repeat k_subL
      refine ⟨((ks.take i).flatMap f).map .ref, by k_places, ?_, ?_⟩
      · rw [sizeLine_eq]; simp only [List.length_map]; omega
      repeat k_subL
      refine ⟨?_, lf, hn', ?_, ?_, ?_⟩
      · exact Ext.putN (by k_offL) hn'
      · k_clsL
      · k_clsL
      · rw [hflat]
        rw [putA_same]; simp
  · repeat k_subL
    rw [show (ks.map Value.ref).length = ks.length by simp, List.take_length] at hlf
    exact ⟨lf, rfl, hn', hlf, hE.setM, rfl⟩

/-- the last k of n with an answer -/
def lastSome {α : Type} (f : Nat → Option α) : Nat → Option α
  | 0 => none
  | n + 1 => (f n).or (lastSome f n)
theorem lastSome_succ {α : Type} (f : Nat → Option α) (n : Nat) : lastSome f (n + 1) = (f n).or (lastSome f n) := rfl
/-- where the last token below a stands -/
def gpos (g : Gf) : Nat → Addr → Option (Addr × Nat)
  | 0, _ => none
  | n + 1, a => match g a with
    | some (.node d l nm ks) => lastSome (fun k => (ks[k]?).bind fun c => if isTree g c then gpos g n c else some (a, k)) ks.length
    | _ => none
/-- the state behind a put -/
def Put (g : Gf) (σ σ' : Sg) (tk : Addr) : Option (Addr × Nat) → Prop
  | none => ESt σ σ'
  | some (p, k) => ∃ d l nm ks, g p = some (.node d l nm ks) ∧ k < ks.length ∧ ESt (σ.put l (.lst ((ks.set k tk).map .ref))) σ'

theorem c_put {b : Base} (G : Glb b) (g : Gf) (tk : Addr) : ∀ n A F L σ a, Gr σ g → Dp g n a → isTree g a = true → Rm A n → (∀ p d l nm ks, g p = some (.node d l nm ks) → ks.length ≤ 2 ^ 20) →
    WC b A F L (.call (.ref 193) ⟨[.ref a, .ref tk], []⟩) σ fun v σ' => v = .bool (gpos g n a).isSome ∧ Put g σ σ' tk (gpos g n a) := by
  intro n
  induction n with
  | zero =>
    intro A F L σ a hG hD hT
    obtain ⟨d, k, v, e⟩ := hD
    unfold isTree at hT; rw [e] at hT; cases hT
  | succ n ih =>
    intro A F L σ a hG hD hT R hlen
    unfold isTree at hT
    unfold Dp at hD
    unfold gpos
    split at hT
    · rename_i d l nm ks e
      rw [e] at hD
      try simp only [e]
      have hkl := hlen _ _ _ _ _ e
      generalize hf : (fun k => (ks[k]?).bind fun c => if isTree g c = true then gpos g n c else some (a, k)) = f
      refine wc_fn1 (fd := fPut.1) (binds := [("tree", Value.ref a), ("token", Value.ref tk)]) G (fPut.2 _) (by kernel_rfl) rfl R.dep rfl fun L' => ?_
      show W _ _ _ _ _ _ _
      refine w_forRange R.deeper.hh ks.length ((ks.length : Int) - 1) (-1) (fun i τ => Ext σ τ ∧ τ.m "tree" = some (.ref a) ∧ τ.m "token" = some (.ref tk) ∧ lastSome f ks.length = lastSome f (ks.length - i)) ?_
      repeat k_subL
      refine w_children G ((hG a _ e).ext ?_) ?_
      · k_offL
      repeat k_subL
      refine w_len (xs := ks.map .ref) ?_ (by simp only [List.length_map]; omega) fun tl => ?_
      · exact (hG a _ e).2
      repeat k_subL
      rw [List.length_map]
      refine w_range3 (PyProof.noPylong_small (by omega)) fun r hr => ?_
      have hrg := range_down ks.length (by omega)
      refine ⟨r, _, _, _, _, rfl, putA_same, hrg.1, hrg.2, ⟨by k_offL, by k_clsL, by k_clsL, rfl⟩, fun i t τ Fa hi ⟨hE, h1, h2, h3⟩ => ?_, fun τ ⟨hE, h1, h2, h3⟩ => ?_⟩
      · obtain ⟨j, hj⟩ : ∃ j, ks.length - i = j + 1 := ⟨ks.length - i - 1, by omega⟩
        have hjl : j < ks.length := by omega
        rw [show (ks.length : Int) - 1 + (i : Int) * -1 = (j : Int) by omega]
        rw [hj, lastSome_succ] at h3
        have hcj : ks[j]? = some ks[j] := List.getElem?_eq_getElem hjl
        have hDc := hD ks[j] (List.getElem_mem _)
        obtain ⟨nd, hnd⟩ := Dp.some hDc
        have hvj : (ks.map Value.ref)[j]? = some (.ref ks[j]) := by simp [hjl]
        have hfj : f j = if isTree g ks[j] = true then gpos g n ks[j] else some (a, j) := by rw [← hf]; simp only [hcj]; rfl
        refine w_storeL (by with_unfolding_all rfl) ?_
        repeat k_subL
        refine w_children G ((hG a _ e).ext (by k_offL)) ?_
        repeat k_subL
        refine w_item ((hG a _ e).ext hE).2 hvj (by simp only [List.length_map]; omega) ?_
        repeat k_subL
        refine w_isTree (nd := nd) G ((hG _ _ hnd).ext ?_) ?_
        · k_offL
        repeat k_subL
        have hT := isTree_of hnd
        refine ⟨fun hb => ?_, fun hb => ?_⟩
        · have hb' : isTree g ks[j] = false := by rw [hT]; simpa using hb
          rw [hb'] at hfj
          simp only [Bool.false_eq_true, if_false] at hfj
          rw [hfj] at h3
          rw [Option.some_or] at h3
          repeat k_subL
          refine w_children G ((hG a _ e).ext (by k_offL)) ?_
          repeat k_subL
          refine w_setItem (k := j) ((hG a _ e).ext hE).2 (by simpa using hjl) (by simp only [List.length_map]; omega) ?_
          repeat k_subL
          rw [h3]
          refine ⟨rfl, d, l, nm, ks, e, hjl, ⟨?_, ?_⟩, rfl⟩
          · intro y c hy
            have hm : (ks.map Value.ref).set j (.ref tk) = (ks.set j tk).map Value.ref := by rw [List.map_set]
            by_cases q : y = l
            · subst q
              rw [putA_same] at hy
              cases hy
              show Sg.at_ (Sg.put _ _ _) _ = _
              rw [putA_same, hm]
            · have : σ.at_ y = some c := by simpa [Sg.put, q] using hy
              exact putA_ne q (hE.at_ _ _ this)
          · obtain ⟨gg, h4, h5⟩ := hE.gens; exact ⟨gg, h4, h5⟩
        · have hb' : isTree g ks[j] = true := by rw [hT]; simpa using hb
          rw [hb'] at hfj
          simp only [if_true] at hfj
          repeat k_subL
          refine w_call0 (f := 193) G (by kernel_rfl) ?_
          repeat k_subL
          refine w_children G ((hG a _ e).ext (by k_offL)) ?_
          repeat k_subL
          refine w_item ((hG a _ e).ext hE).2 hvj (by simp only [List.length_map]; omega) ?_
          repeat k_subL
          refine WC.call (WC.mono (ih _ _ _ _ _ (hG.ext ?_) hDc hb' R.deeper hlen) fun v σ' ⟨hv, hP⟩ => ?_)
          · k_offL
          subst hv
          rw [← hfj] at hP ⊢
          repeat k_subL
          refine ⟨fun hs => ?_, fun hs => ?_⟩
          · obtain ⟨⟨p, k⟩, hp⟩ := Option.isSome_iff_exists.mp hs
            rw [hp] at hP h3
            rw [Option.some_or] at h3
            obtain ⟨d', l', nm', ks', e', hk', hE2, hm2⟩ := hP
            repeat k_subL
            rw [h3]
            refine ⟨rfl, d', l', nm', ks', e', hk', ⟨?_, ?_⟩, rfl⟩
            · intro y c hy
              refine hE2.at_ y c ?_
              by_cases q : y = l'
              · subst q
                rw [putA_same] at hy ⊢
                exact hy
              · have : σ.at_ y = some c := by simpa [Sg.put, q] using hy
                exact putA_ne q (hE.at_ _ _ this)
            · have hE3 : Ext σ (τ.setL "k" (.int j t)) := by k_offL
              obtain ⟨gg, h4, h5⟩ := hE3.gens
              obtain ⟨gg', h4', h5'⟩ := hE2.gens
              refine ⟨gg ++ gg', ?_, fun x hx => ?_⟩
              · show σ'.gens = σ.gens ++ _
                rw [h4']; show (τ.setL "k" (.int j t)).gens ++ _ = _; rw [h4]; simp [Array.append_assoc]
              · rcases List.mem_append.mp hx with q | q
                · exact h5 x q
                · exact h5' x q
          · have hp : f j = none := by cases q : f j with
              | none => rfl
              | some _ => rw [q] at hs; cases hs
            rw [hp] at hP h3
            rw [Option.none_or] at h3
            obtain ⟨hE2, hm2⟩ := hP
            repeat k_subL
            refine ⟨?_, ?_, ?_, ?_⟩
            · k_offL
            · k_clsL
            · k_clsL
            · rw [h3]; congr 1; omega
      · rw [Nat.sub_self] at h3
        change _ = none at h3
        repeat k_subL
        rw [h3]
        exact ⟨rfl, hE.setM, rfl⟩
    · cases hT
end PartB5

section PartB6
open PySem PySem.W PyProof.Rows PySem.Calls
set_option maxRecDepth 100000
set_option maxHeartbeats 4000000
set_option linter.unusedVariables false

local macro_rules | `(tactic| k_clsL) => `(tactic| first
  | with_reducible assumption
  | (with_reducible show Sg.m (Sg.setL _ _ _) _ = some _; first | with_reducible exact getL_same | (apply getL_skip; with_unfolding_all decide; k_clsL))
  | (with_reducible show Sg.m (Sg.put _ _ _) _ = some _; apply putM; k_clsL)
  | (with_reducible show Sg.m (Sg.del _ _) _ = some _; apply delM; k_clsL)
  | (with_reducible show Sg.m (Sg.setM _ _) _ = some _; apply setMM; k_clsL)
  | (apply viaM; with_reducible assumption; k_clsL)
  | (apply viaE; with_reducible assumption; k_clsL))
local macro_rules | `(tactic| k_offL) => `(tactic| first
  | with_reducible assumption
  | with_reducible exact Ext.rfl
  | (with_reducible show Ext _ (Sg.setL _ _ _); refine Ext.setL ?_; k_offL)
  | (with_reducible show Ext _ (Sg.put _ _ _); refine Ext.put ?_ (by first | with_reducible assumption | with_reducible exact setA (by with_reducible assumption)); k_offL)
  | (with_reducible show Ext _ (Sg.setM _ _); refine Ext.setM ?_; k_offL)
  | (with_reducible refine Ext.tr (by with_reducible assumption) ?_; k_offL)
  | (with_reducible refine Ext.tr2 (by with_reducible assumption) ?_; k_offL))
local macro_rules | `(tactic| k_places) => `(tactic| first
  | with_reducible assumption
  | with_reducible exact putA_same
  | (with_reducible show Sg.at_ (Sg.setL _ _ _) _ = some _; apply setA; k_places)
  | (with_reducible show Sg.at_ (Sg.setM _ _) _ = some _; apply setMA; k_places)
  | (with_reducible show Sg.at_ (Sg.put _ _ _) _ = some _; apply putA_new; with_reducible assumption; k_places)
  | (apply ESt.at_; with_reducible assumption; k_places)
  | (apply Ext.at'; with_reducible assumption; k_places))
local macro_rules | `(tactic| k_subL) => `(tactic| first
  | (with_reducible show W _ _ _ _ (spliced (backTo _ (starEach [] _))) _ _; refine w_items0 ?_)
  | (with_reducible show W _ _ _ _ (spliced (backTo _ (starEach (_ :: _) _))) _ _; refine w_items ?_)
  | (with_reducible show W _ _ _ _ (eval (Expr.Name _ _) _) _ _; first | refine w_local (by with_unfolding_all rfl) (by k_clsL) ?_ | refine w_cell (by with_unfolding_all rfl) (by k_places) ?_ | (with_reducible show W _ _ _ _ (eval (Expr.Name ("Tree" : Str) _) _) _ _; refine w_glob (v := .ref 142) (by assumption) (by kernel_rfl) ?_) | (with_reducible show W _ _ _ _ (eval (Expr.Name ("Token" : Str) _) _) _ _; refine w_glob (v := .ref 45) (by assumption) (by kernel_rfl) ?_))
  | (with_reducible show W _ _ _ _ (eval (Expr.Call (Expr.Name ("isinstance" : Str) _) _ [] _) _) _ _; refine w_callB (n := "isinstance") (by assumption) boot_isi (by kernel_rfl) ?_)
  | (with_reducible show W _ _ _ _ (eval (Expr.Call (Expr.Name ("len" : Str) _) _ [] _) _) _ _; refine w_callB (n := "len") (by assumption) boot_len (by kernel_rfl) ?_)
  | (with_reducible show W _ _ _ _ (eval (Expr.Call (Expr.Name ("min" : Str) _) _ [] _) _) _ _; refine w_callB (n := "min") (by assumption) boot_min (by kernel_rfl) ?_)
  | (with_reducible show W _ _ _ _ (eval (Expr.Call (Expr.Name ("range" : Str) _) _ [] _) _) _ _; refine w_callT (n := "range") (by assumption) boot_range (by kernel_rfl) ?_)
  | (with_reducible show W _ _ _ _ (eval (Expr.Call (Expr.Name ("str" : Str) _) _ [] _) _) _ _; refine w_callT (n := "str") (by assumption) boot_str (by kernel_rfl) ?_)
  | (with_reducible show W _ _ _ _ (eval (Expr.Call (Expr.Name ("list" : Str) _) _ [] _) _) _ _; refine w_callT (n := "list") (by assumption) boot_list (by kernel_rfl) ?_)
  | (with_reducible show W _ _ _ _ (eval (Expr.Call (Expr.Name ("reversed" : Str) _) _ [] _) _) _ _; refine w_callT (n := "reversed") (by assumption) boot_rev (by kernel_rfl) ?_)
  | (with_reducible show W _ _ _ _ (eval (Expr.Call (Expr.Name ("filter" : Str) _) _ [] _) _) _ _; refine w_callT (n := "filter") (by assumption) boot_filter (by kernel_rfl) ?_)
  | (with_reducible show W _ _ _ _ (call (.builtin "len") [.ref _]) _ _; (refine w_len (by k_places) ?_ fun _ => ?_); rotate_left)
  | (with_reducible show W _ _ _ _ (binaryOp .Add (.int _ _) (.int _ _)) _ _; refine w_addI fun _ => ?_)
  | (with_reducible show W _ _ _ _ (binaryOp .Sub (.int _ _) (.int _ _)) _ _; refine w_subI fun _ => ?_)
  | (with_reducible show W _ _ _ _ (compareOp .Eq (.int _ _) (.int _ _)) _ _; refine w_eqI ?_)
  | (with_reducible show W _ _ _ _ (compareOp .NotEq (.int _ _) (.int _ _)) _ _; refine w_neI ?_)
  | (with_reducible show W _ _ _ _ (compareOp .Lt (.int _ _) (.int _ _)) _ _; refine w_ltI ?_)
  | (with_reducible show W _ _ _ _ (compareOp .Eq (.str _ _) (.str _ _)) _ _; refine w_eqS ?_)
  | (with_reducible show W _ _ _ _ (compareOp .NotEq (.bool _) (.bool _)) _ _; refine w_neB ?_)
  | (with_reducible show W _ _ _ _ (unaryOp .USub (.int _ _)) _ _; refine w_negI fun _ => ?_)
  | (with_reducible show W _ _ _ _ (unaryOp .Not _) _ _; refine w_notv ?_)
  | (with_reducible show W _ _ _ _ (eval (Expr.Attribute _ _ _) _) _ _; refine w_attr ?_)
  | (with_reducible show W _ _ _ _ (eval (Expr.List _ _) _) _ _; refine w_list ?_)
  | (with_reducible show W _ _ _ _ (eval (Expr.Tuple _ _ _) _) _ _; refine w_tuple ?_)
  | (with_reducible show W _ _ _ _ (eval (Expr.BinOp _ _ _ _) _) _ _; refine w_binop ?_)
  | (with_reducible show W _ _ _ _ (eval (Expr.Compare _ [_] [_] _) _) _ _; refine w_cmp ?_)
  | (with_reducible show W _ _ _ _ (eval (Expr.IfExp _ _ _ _) _) _ _; refine w_ifexp ?_)
  | (with_reducible show W _ _ _ _ (eval (Expr.Subscript _ _ _) _) _ _; refine w_sub ?_)
  | (with_reducible show W _ _ _ _ (eval (Expr.UnaryOp _ _ _) _) _ _; refine w_unop ?_)
  | (with_reducible show W _ _ _ _ (eval (Expr.Constant .none _ _) _) _ _; refine w_none ?_)
  | (with_reducible show W _ _ _ _ (eval (Expr.Constant (.bool _) _ _) _) _ _; refine w_tf ?_)
  | (with_reducible show W _ _ _ _ (eval (Expr.Constant (.int _) _ _) _) _ _; refine w_int ?_; intro _)
  | (with_reducible show W _ _ _ _ (eval (Expr.Constant (.str _) _ _) _) _ _; refine w_str ?_; intro _)
  | (with_reducible show W _ _ _ _ (execs [] _) _ _; refine w_nil ?_)
  | (with_reducible show W _ _ _ _ (execs (Stmt.Assign [Expr.Name _ _] (Expr.ListComp _ [Comprehension.mk _ _ _ _] _ _) _ :: _) _) _ _; refine w_cons (w_assignComp ?_))
  | (with_reducible show W _ _ _ _ (execs (Stmt.Assign [Expr.Name _ _] _ _ :: _) _) _ _; refine w_consA ?_)
  | (with_reducible show W _ _ _ _ (execs (Stmt.Assign [Expr.Attribute _ _ _] _ _ :: _) _) _ _; refine w_consAttr ?_)
  | (with_reducible show W _ _ _ _ (execs (Stmt.Assign [Expr.Subscript _ _ _] _ _ :: _) _) _ _; refine w_consSub ?_)
  | (with_reducible show W _ _ _ _ (execs (Stmt.If _ _ [] _ :: _) _) _ _; refine w_consIf ?_)
  | (with_reducible show W _ _ _ _ (execs (Stmt.If _ _ _ _ :: _) _) _ _; refine w_consElse ?_)
  | (with_reducible show W _ _ _ _ (execs (Stmt.Return (some _) _ :: _) _) _ _; refine w_consRet ?_)
  | (with_reducible show W _ _ _ _ (execs (Stmt.Break _ :: _) _) _ _; refine w_consBrk ?_)
  | (with_reducible show W _ _ _ _ (execs (Stmt.Continue _ :: _) _) _ _; refine w_consCont ?_)
  | (with_reducible show W _ _ _ _ (execs (Stmt.Expr (Expr.Call (Expr.Attribute _ _ _) [_] [] _) _ :: _) _) _ _; refine w_consApp ?_)
  | (with_reducible show W _ _ _ _ (execs (Stmt.Expr _ _ :: _) _) _ _; refine w_consE ?_)
  | (with_reducible show W _ _ _ _ (isTrue (Expr.UnaryOp .Not _ _) _ _) _ _; refine w_not ?_)
  | (with_reducible show W _ _ _ _ (isTrue (Expr.BoolOp _ _ _) _ _) _ _; refine w_bool ?_)
  | (with_reducible show W _ _ _ _ (allTrue .And [] _) _ _; refine w_andNil ?_)
  | (with_reducible show W _ _ _ _ (allTrue .Or [] _) _ _; refine w_orNil ?_)
  | (with_reducible show W _ _ _ _ (allTrue .And (_ :: _) _) _ _; refine w_and ?_)
  | (with_reducible show W _ _ _ _ (allTrue .Or (_ :: _) _) _ _; refine w_or ?_)
  | (with_reducible show W _ _ _ _ (isTrue (Expr.Compare _ [_] [_] _) _ _) _ _; refine w_tcmp ?_)
  | (with_reducible show W _ _ _ _ (isTrue _ _ _) _ _; refine w_tval ?_)
  | (with_reducible show W _ _ _ _ (storeName _ _ _) _ _; first | refine w_storeL (by with_unfolding_all rfl) ?_ | refine w_storeC (by with_unfolding_all rfl) (by k_places) ?_)
  | (with_reducible show W _ _ _ _ (tests [_] _) _ _; refine w_tests1 ?_)
  | (with_reducible show W _ _ _ _ (tests [] _) _ _; refine w_tests0 ?_)
  | (with_reducible show W _ _ _ _ (eval (Expr.ListComp _ [Comprehension.mk _ _ _ _] _ _) _) _ _; refine w_listcomp ?_)
  | (with_reducible show W _ _ _ _ (truthy (.bool _)) _ _; refine w_truthyB ?_)
  | (with_reducible show thenK _ _ Flow.next _; refine thenK_next ?_)
  | (with_reducible show thenK _ _ Flow.brk _; refine thenK_brk ?_)
  | (with_reducible show thenK _ _ Flow.cont _; refine thenK_cont ?_)
  | (with_reducible show thenK _ _ (Flow.ret _) _; refine thenK_ret ?_)
  | (with_reducible show turnK _ _ _ Flow.next _; refine turnK_next ?_)
  | (with_reducible show turnK _ _ _ Flow.brk _; refine turnK_brk ?_)
  | (with_reducible show turnK _ _ _ Flow.cont _; refine turnK_cont ?_)
  | (with_reducible show turnK _ _ _ (Flow.ret _) _; refine turnK_ret ?_))

theorem Rm.room {A : Around} {n : Nat} (x : Rm A n) : Room A (n + 4 + 1) (8 * n + 199 + 1) := x.r

theorem c_copy {b : Base} (G : Glb b) {A : Around} {F : Fs} {L : Addr} {σ : Sg} {n : Nat} {a d l : Addr} {nm : Str} {ks : List Addr} (R : Rm A (n + 1)) (h : NdAt σ a (.node d l nm ks)) :
    WC b A F L (.call (.ref 132) ⟨[.ref a], []⟩) σ fun v σ' => ∃ x d', v = .ref x ∧ σ.at_ x = none ∧ σ.at_ d' = none ∧ NdAt σ' x (.node d' l nm ks) ∧ ESt σ σ' := by
  refine wc_fn1 (fd := fCopy.1) (binds := [("self", Value.ref a)]) G (fCopy.2 _) (by kernel_rfl) rfl R.dep rfl fun L' => ?_
  show W _ _ _ _ _ _ _
  repeat k_subL
  refine w_call0 (f := 142) G (by kernel_rfl) ?_
  repeat k_subL
  refine w_data G (h.ext (by k_offL)) fun t => ?_
  repeat k_subL
  refine w_children G (h.ext (by k_offL)) ?_
  repeat k_subL
  refine WC.call (WC.mono (c_Tree G R.deeper.room) fun v σ' ⟨x, d', hv, hx, hd, I, hE⟩ => ?_)
  subst hv
  refine ⟨x, d', rfl, hx, hd, ⟨⟨t, I⟩, ?_⟩, ⟨?_, rfl⟩⟩
  · exact hE.1.at_ _ _ h.2
  · exact (show Ext σ σ' by k_offL).setM

/-- set(d, c) -/
theorem c_set {b : Base} (G : Glb b) {A : Around} {F : Fs} {L : Addr} {σ : Sg} {n : Nat} {a d l l' : Addr} {nm nm' : Str} {t' : Tok} {ks ks' : List Addr} (R : Rm A (n + 1)) (h : NdAt σ a (.node d l nm ks)) (h' : σ.at_ l' = some (.lst (ks'.map .ref))) :
    WC b A F L (.call (.ref 139) ⟨[.ref a, .str nm' t', .ref l'], []⟩) σ fun v σ' => v = .none ∧ NdAt σ' a (.node d l' nm' ks') ∧ OnlyD σ σ' d := by
  obtain ⟨⟨t, I⟩, hl⟩ := h
  refine wc_fn1 (fd := fSet.1) (binds := [("self", Value.ref a), ("data", .str nm' t'), ("children", .ref l')]) G (fSet.2 _) (by kernel_rfl) rfl R.dep rfl fun L' => ?_
  show W _ _ _ _ _ _ _
  repeat k_subL
  refine w_setAttr (name := "data") (d := d) G (cls142 b) I (by kernel_rfl) (by simp) ?_
  repeat k_subL
  refine w_setAttr (name := "children") (d := d) G (cls142 b) (Inst.put I) (by kernel_rfl) ?_ ?_
  · have := putA_len "data" (.str nm' t') [("data", .str nm t), ("children", .ref l), ("_meta", .none)]
    simp at this ⊢; omega
  repeat k_subL
  have ne : l' ≠ d := fun e => by rw [e, I.2] at h'; cases h'
  refine ⟨rfl, ⟨⟨t', ?_⟩, ?_⟩, fun y c n hy => putA_ne n (putA_ne n hy), rfl, rfl⟩
  · exact Inst.put (Inst.put I)
  · exact putA_ne ne (putA_ne ne h')

end PartB6

section PartB7
open PySem PySem.W PyProof.Rows PySem.Calls
set_option maxRecDepth 100000
set_option maxHeartbeats 4000000
set_option linter.unusedVariables false

section
variable {b : Base} {A : Around} {F : Fs} {L : Addr} {σ : Sg} {env : Env}
/-- an iterator that gives xs, whatever happens meanwhile, as long as K holds -/
def Its (b : Base) (A : Around) (xs : List Value) (it : Value) (Fi : Nat → Fs) (K : Sg → Prop) : Prop :=
  ∀ i F L σ D I, K σ → i ≤ xs.length → (i = xs.length → D σ) → (∀ v, xs[i]? = some v → I v (Fi (i + 1)) σ) → Next b A F L it (Fi i) σ D I
theorem Its.list {xs : List Value} {a l : Addr} (hh : A.handled = none) : Its b A xs (.ref a) (fun i => [(a, .cl (itObj l i))]) (fun σ => σ.at_ l = some (.lst xs)) := fun i F L σ D I hK hi hd h => by
  refine next_list hh hK (fun hx => hd ?_) h
  have := List.getElem?_eq_none_iff.mp hx; omega
theorem Its.rev {xs : List Value} {a l : Addr} (hh : A.handled = none) : Its b A xs.reverse (.ref a) (fun i => [(a, .cl (rvObj l (((xs.length - i : Nat) : Int) - 1)))]) (fun σ => σ.at_ l = some (.lst xs)) := fun i F L σ D I hK hi hd h => by
  rw [List.length_reverse] at hi hd
  refine next_rev hh hK (by omega) (fun hx => hd (by omega)) fun k v e hv => ?_
  have e2 : xs.length - (i + 1) = k := by omega
  have := h v (by
    have hlt : k < xs.length := (List.getElem?_eq_some_iff.mp hv).1
    rw [List.getElem?_reverse (by omega), show xs.length - 1 - i = k by omega]; exact hv)
  dsimp only at this
  rw [e2] at this
  exact this

/-- those of xs that pass, the loop's name in a cell of the comprehension's own -/
theorem w_compC {iter : Expr} {x : Str} {px ep : Pos} {ifs : List Expr} {scope : Scope} {pos pp : Pos} {cl : List (Str × Addr)} {use : Option (Value → Sem Unit)} {Q : Value → Sg → Prop} (p : Value → Bool)
    (hclos : closureFor scope env = pure cl) (hkind : scope.kind = .function) (hnames : ∀ x ∈ scope.names, x.2 = .local → scope.names.lookup x.1 = some .local)
    (hck : ∀ τ k, (∀ c, τ.at_ c = none → k ((x, c) :: cl) (τ.put c (.cel none))) → CellK scope.names cl τ k)
    (hx : ∀ C cs, (cEnv scope C cs env).kindOf x = some .cell) (hdb : (x == ("__debug__" : Str)) = false)
    (h : W b A F L (eval iter env) σ fun xv σ₁ => Iter b A F L xv σ₁ fun it Fi0 σ₂ => ∃ xs Fi K, Fi0 = Fi 0 ∧ Its b A xs it Fi K ∧ Self b A it (Fi 0) ∧ (∀ τ, Ext σ₂ τ → K τ) ∧ xs.length ≤ sizeLine ∧
          (∀ v ∈ xs, ∀ τ C F' c, Ext σ₂ τ → σ₂.at_ c = none → τ.at_ c = some (.cel (some v)) → W b A F' C (tests ifs (cEnv scope C ((x, c) :: cl) env)) τ fun ok σ₅ => ok = p v ∧ Ext τ σ₅) ∧
          (∀ τ acc, Ext σ₂ τ → τ.at_ acc = none → τ.m = σ₂.m → match use with
            | none => Q (.ref acc) (τ.put acc (.lst (xs.filter p)))
            | some u => ∀ C m, W b A ((C, .ns m) :: F) L (u (.ref acc)) (τ.put acc (.lst (xs.filter p))) fun _ => Q .none))
    (hs : ∀ x, foldedSetIterable iter env x = pure x := by intro _; with_unfolding_all rfl) :
    W b A F L (comprehension (.ListComp (.Name x ep) [⟨.Name x px, iter, ifs, 0⟩] scope pos) scope env pp (newList []) false (eval iter env) use) σ Q := by
  refine w_comp hclos hkind hnames (fun _ _ => by rfl) (W.mono h fun xv σ₁ q s E y => wpAny_mono (q s E y) (fun it s₂ ⟨Fi0, σ₂, y₂, xs, Fi, K, e, hI, hself, hK, hz, body, fin⟩ => ⟨Fi0, σ₂, y₂, ?_⟩) fun _ _ e => e) hs
  subst e
  refine ⟨hself, fun acc C => hck _ _ fun c hc => ⟨rfl, fun k Fi' ys τ => ∃ i, Fi' = Fi i ∧ i ≤ xs.length ∧ k = xs.length - i ∧ Ext σ₂ τ ∧ (∃ u, τ.at_ c = some (.cel u)) ∧ ys = (xs.take i).filter p, xs.length, ⟨0, rfl, Nat.zero_le _, rfl, ?_, ⟨none, putA_same⟩, by simp⟩, ?_⟩⟩
  · exact Ext.put (Ext.rfl.mr _) hc
  rintro k _ ys τ ⟨i, rfl, hi, hk, hE, ⟨u, hu⟩, rfl⟩
  have hle : ((xs.take i).filter p).length ≤ (xs.take i).length := List.length_filter_le _ _
  have hle2 : (xs.take i).length ≤ xs.length := by rw [List.length_take]; omega
  refine ⟨by omega, hI i _ _ _ _ _ (hK _ hE) hi (fun e hacc => ?_) fun v hv => ?_⟩
  · subst e
    rw [List.take_length]
    have f := fin { τ with m := σ₂.m } acc (hE.mr _) hacc rfl
    cases use with
    | none => exact f
    | some u => exact f C τ.m
  · have hmem : v ∈ xs := List.mem_of_getElem? hv
    have hlt : i < xs.length := (List.getElem?_eq_some_iff.mp hv).1
    have hc2 : σ₂.at_ c = none := hc
    refine w_assignN (w_storeC (c := c) (u := u) (by simp [cEnv, newEnv]) hu ?_ (by show (relabel scope env).kind = _; exact hkind) (hx _ _))
    have hE' : Ext σ₂ (τ.put c (.cel (some v))) := hE.putN hc2
    refine W.mono (body v hmem _ _ _ c hE' hc2 putA_same) fun ok σ₅ ⟨hok, hE₅⟩ => ⟨fun ht => ?_, fun hf => ?_⟩
    · rw [hok] at ht
      have hcc := hE₅.at_ _ _ (putA_same (σ := τ) (a := c) (c := .cel (some v)))
      refine w_cell (c := c) (v := v) (by simp [cEnv, newEnv]) hcc ?_ (by show (relabel scope env).kind = _; exact hkind) (hx _ _) hdb
      refine ⟨k - 1, by omega, i + 1, rfl, by omega, by omega, hE'.trans hE₅, ⟨_, hcc⟩, ?_⟩
      rw [take_succ_filter p _ i v hv, ht]; rfl
    · rw [hok] at hf
      have hcc := hE₅.at_ _ _ (putA_same (σ := τ) (a := c) (c := .cel (some v)))
      refine ⟨k - 1, by omega, i + 1, rfl, by omega, by omega, hE'.trans hE₅, ⟨_, hcc⟩, ?_⟩
      rw [take_succ_filter p _ i v hv, hf]; simp

/-- those of a list that pass -/
theorem w_compF {iter : Expr} {x : Str} {px ep : Pos} {ifs : List Expr} {scope : Scope} {pos pp : Pos} {cl : List (Str × Addr)} {use : Option (Value → Sem Unit)} {Q : Value → Sg → Prop} (p : Value → Bool) (hh : A.handled = none)
    (hclos : closureFor scope env = pure cl) (hkind : scope.kind = .function) (hnames : ∀ x ∈ scope.names, x.2 = .local → scope.names.lookup x.1 = some .local)
    (hcell : ∀ y ∈ scope.names, y.2 ≠ .cell) (hx : scope.names.lookup x = some .local) (hdb : (x == ("__debug__" : Str)) = false)
    (h : W b A F L (eval iter env) σ fun xv σ₁ => ∃ l xs, xv = .ref l ∧ σ₁.at_ l = some (.lst xs) ∧ xs.length ≤ sizeLine ∧
          (∀ v ∈ xs, ∀ τ C F', Ext σ₁ τ → τ.m x = some v → W b A F' C (tests ifs (cEnv scope C cl env)) τ fun ok σ₅ => ok = p v ∧ Ext τ σ₅ ∧ σ₅.m x = some v) ∧
          (∀ τ acc, Ext σ₁ τ → τ.at_ acc = none → τ.m = σ₁.m → match use with
            | none => Q (.ref acc) (τ.put acc (.lst (xs.filter p)))
            | some u => ∀ C m, W b A ((C, .ns m) :: F) L (u (.ref acc)) (τ.put acc (.lst (xs.filter p))) fun _ => Q .none))
    (hs : ∀ x, foldedSetIterable iter env x = pure x := by intro _; with_unfolding_all rfl) :
    W b A F L (comprehension (.ListComp (.Name x ep) [⟨.Name x px, iter, ifs, 0⟩] scope pos) scope env pp (newList []) false (eval iter env) use) σ Q := by
  refine w_compR p (fun v y _ => y = v) hh hclos hkind hnames hcell hx (W.mono h fun xv σ₁ ⟨l, xs, e, hl, hz, body, fin⟩ => ⟨l, xs, e, hl, hz, fun _ _ _ _ _ h => h, fun v hv τ C F' hE hm => W.mono (body v hv τ C F' hE hm) fun ok σ₅ ⟨h1, h2, h3⟩ => ⟨h1, h2, fun _ => ?_⟩, fun ys τ acc hE hP hacc hm => ?_⟩) hs
  · exact w_local rfl h3 ⟨Ext.rfl, rfl⟩ (by show (relabel scope env).kind = _; exact hkind) (lookup_relabel_local hx) hdb
  · have : ys = xs.filter p := by
      have : ∀ {l₁ l₂ : List Value}, Paired (fun v y => y = v) l₁ l₂ → l₂ = l₁ := fun h => by
        induction h with
        | nil => rfl
        | cons h _ ih => rw [h, ih]
      exact this hP
    subst this
    exact fin τ acc hE hacc hm
end
end PartB7

section PartB8
open PySem PySem.W PyProof.Rows PySem.Calls
set_option maxRecDepth 100000
set_option maxHeartbeats 4000000
set_option linter.unusedVariables false

local macro_rules | `(tactic| k_clsL) => `(tactic| first
  | with_reducible assumption
  | (with_reducible show Sg.m (Sg.setL _ _ _) _ = some _; first | with_reducible exact getL_same | (apply getL_skip; with_unfolding_all decide; k_clsL))
  | (with_reducible show Sg.m (Sg.put _ _ _) _ = some _; apply putM; k_clsL)
  | (with_reducible show Sg.m (Sg.del _ _) _ = some _; apply delM; k_clsL)
  | (with_reducible show Sg.m (Sg.setM _ _) _ = some _; apply setMM; k_clsL)
  | (apply viaM; with_reducible assumption; k_clsL)
  | (apply viaE; with_reducible assumption; k_clsL))
local macro_rules | `(tactic| k_offL) => `(tactic| first
  | with_reducible assumption
  | with_reducible exact Ext.rfl
  | (with_reducible show Ext _ (Sg.setL _ _ _); refine Ext.setL ?_; k_offL)
  | (with_reducible show Ext _ (Sg.put _ _ _); refine Ext.put ?_ (by first | with_reducible assumption | with_reducible exact setA (by with_reducible assumption)); k_offL)
  | (with_reducible show Ext _ (Sg.setM _ _); refine Ext.setM ?_; k_offL)
  | (with_reducible refine Ext.tr (by with_reducible assumption) ?_; k_offL)
  | (with_reducible refine Ext.tr2 (by with_reducible assumption) ?_; k_offL))
local macro_rules | `(tactic| k_places) => `(tactic| first
  | with_reducible assumption
  | with_reducible exact putA_same
  | (with_reducible show Sg.at_ (Sg.setL _ _ _) _ = some _; apply setA; k_places)
  | (with_reducible show Sg.at_ (Sg.setM _ _) _ = some _; apply setMA; k_places)
  | (with_reducible show Sg.at_ (Sg.put _ _ _) _ = some _; apply putA_new; with_reducible assumption; k_places)
  | (apply ESt.at_; with_reducible assumption; k_places)
  | (apply Ext.at'; with_reducible assumption; k_places))
local macro_rules | `(tactic| k_subL) => `(tactic| first
  | (with_reducible show W _ _ _ _ (spliced (backTo _ (starEach [] _))) _ _; refine w_items0 ?_)
  | (with_reducible show W _ _ _ _ (spliced (backTo _ (starEach (_ :: _) _))) _ _; refine w_items ?_)
  | (with_reducible show W _ _ _ _ (eval (Expr.Name _ _) _) _ _; first | refine w_local (by with_unfolding_all rfl) (by k_clsL) ?_ | refine w_cell (by with_unfolding_all rfl) (by k_places) ?_ | (with_reducible show W _ _ _ _ (eval (Expr.Name ("Tree" : Str) _) _) _ _; refine w_glob (v := .ref 142) (by assumption) (by kernel_rfl) ?_) | (with_reducible show W _ _ _ _ (eval (Expr.Name ("Token" : Str) _) _) _ _; refine w_glob (v := .ref 45) (by assumption) (by kernel_rfl) ?_))
  | (with_reducible show W _ _ _ _ (eval (Expr.Call (Expr.Name ("isinstance" : Str) _) _ [] _) _) _ _; refine w_callB (n := "isinstance") (by assumption) boot_isi (by kernel_rfl) ?_)
  | (with_reducible show W _ _ _ _ (eval (Expr.Call (Expr.Name ("len" : Str) _) _ [] _) _) _ _; refine w_callB (n := "len") (by assumption) boot_len (by kernel_rfl) ?_)
  | (with_reducible show W _ _ _ _ (eval (Expr.Call (Expr.Name ("min" : Str) _) _ [] _) _) _ _; refine w_callB (n := "min") (by assumption) boot_min (by kernel_rfl) ?_)
  | (with_reducible show W _ _ _ _ (eval (Expr.Call (Expr.Name ("range" : Str) _) _ [] _) _) _ _; refine w_callT (n := "range") (by assumption) boot_range (by kernel_rfl) ?_)
  | (with_reducible show W _ _ _ _ (eval (Expr.Call (Expr.Name ("str" : Str) _) _ [] _) _) _ _; refine w_callT (n := "str") (by assumption) boot_str (by kernel_rfl) ?_)
  | (with_reducible show W _ _ _ _ (eval (Expr.Call (Expr.Name ("list" : Str) _) _ [] _) _) _ _; refine w_callT (n := "list") (by assumption) boot_list (by kernel_rfl) ?_)
  | (with_reducible show W _ _ _ _ (eval (Expr.Call (Expr.Name ("reversed" : Str) _) _ [] _) _) _ _; refine w_callT (n := "reversed") (by assumption) boot_rev (by kernel_rfl) ?_)
  | (with_reducible show W _ _ _ _ (eval (Expr.Call (Expr.Name ("filter" : Str) _) _ [] _) _) _ _; refine w_callT (n := "filter") (by assumption) boot_filter (by kernel_rfl) ?_)
  | (with_reducible show W _ _ _ _ (call (.builtin "len") [.ref _]) _ _; (refine w_len (by k_places) ?_ fun _ => ?_); rotate_left)
  | (with_reducible show W _ _ _ _ (binaryOp .Add (.int _ _) (.int _ _)) _ _; refine w_addI fun _ => ?_)
  | (with_reducible show W _ _ _ _ (binaryOp .Sub (.int _ _) (.int _ _)) _ _; refine w_subI fun _ => ?_)
  | (with_reducible show W _ _ _ _ (compareOp .Eq (.int _ _) (.int _ _)) _ _; refine w_eqI ?_)
  | (with_reducible show W _ _ _ _ (compareOp .NotEq (.int _ _) (.int _ _)) _ _; refine w_neI ?_)
  | (with_reducible show W _ _ _ _ (compareOp .Lt (.int _ _) (.int _ _)) _ _; refine w_ltI ?_)
  | (with_reducible show W _ _ _ _ (compareOp .Eq (.str _ _) (.str _ _)) _ _; refine w_eqS ?_)
  | (with_reducible show W _ _ _ _ (compareOp .NotEq (.bool _) (.bool _)) _ _; refine w_neB ?_)
  | (with_reducible show W _ _ _ _ (unaryOp .USub (.int _ _)) _ _; refine w_negI fun _ => ?_)
  | (with_reducible show W _ _ _ _ (unaryOp .Not _) _ _; refine w_notv ?_)
  | (with_reducible show W _ _ _ _ (eval (Expr.Attribute _ _ _) _) _ _; refine w_attr ?_)
  | (with_reducible show W _ _ _ _ (eval (Expr.List _ _) _) _ _; refine w_list ?_)
  | (with_reducible show W _ _ _ _ (eval (Expr.Tuple _ _ _) _) _ _; refine w_tuple ?_)
  | (with_reducible show W _ _ _ _ (eval (Expr.BinOp _ _ _ _) _) _ _; refine w_binop ?_)
  | (with_reducible show W _ _ _ _ (eval (Expr.Compare _ [_] [_] _) _) _ _; refine w_cmp ?_)
  | (with_reducible show W _ _ _ _ (eval (Expr.IfExp _ _ _ _) _) _ _; refine w_ifexp ?_)
  | (with_reducible show W _ _ _ _ (eval (Expr.Subscript _ _ _) _) _ _; refine w_sub ?_)
  | (with_reducible show W _ _ _ _ (eval (Expr.UnaryOp _ _ _) _) _ _; refine w_unop ?_)
  | (with_reducible show W _ _ _ _ (eval (Expr.Constant .none _ _) _) _ _; refine w_none ?_)
  | (with_reducible show W _ _ _ _ (eval (Expr.Constant (.bool _) _ _) _) _ _; refine w_tf ?_)
  | (with_reducible show W _ _ _ _ (eval (Expr.Constant (.int _) _ _) _) _ _; refine w_int ?_; intro _)
  | (with_reducible show W _ _ _ _ (eval (Expr.Constant (.str _) _ _) _) _ _; refine w_str ?_; intro _)
  | (with_reducible show W _ _ _ _ (execs [] _) _ _; refine w_nil ?_)
  | (with_reducible show W _ _ _ _ (execs (Stmt.Assign [Expr.Name _ _] (Expr.ListComp _ [Comprehension.mk _ _ _ _] _ _) _ :: _) _) _ _; refine w_cons (w_assignComp ?_))
  | (with_reducible show W _ _ _ _ (execs (Stmt.Assign [Expr.Name _ _] _ _ :: _) _) _ _; refine w_consA ?_)
  | (with_reducible show W _ _ _ _ (execs (Stmt.Assign [Expr.Attribute _ _ _] _ _ :: _) _) _ _; refine w_consAttr ?_)
  | (with_reducible show W _ _ _ _ (execs (Stmt.Assign [Expr.Subscript _ _ _] _ _ :: _) _) _ _; refine w_consSub ?_)
  | (with_reducible show W _ _ _ _ (execs (Stmt.If _ _ [] _ :: _) _) _ _; refine w_consIf ?_)
  | (with_reducible show W _ _ _ _ (execs (Stmt.If _ _ _ _ :: _) _) _ _; refine w_consElse ?_)
  | (with_reducible show W _ _ _ _ (execs (Stmt.Return (some _) _ :: _) _) _ _; refine w_consRet ?_)
  | (with_reducible show W _ _ _ _ (execs (Stmt.Break _ :: _) _) _ _; refine w_consBrk ?_)
  | (with_reducible show W _ _ _ _ (execs (Stmt.Continue _ :: _) _) _ _; refine w_consCont ?_)
  | (with_reducible show W _ _ _ _ (execs (Stmt.Expr (Expr.Call (Expr.Attribute _ _ _) [_] [] _) _ :: _) _) _ _; refine w_consApp ?_)
  | (with_reducible show W _ _ _ _ (execs (Stmt.Expr _ _ :: _) _) _ _; refine w_consE ?_)
  | (with_reducible show W _ _ _ _ (isTrue (Expr.UnaryOp .Not _ _) _ _) _ _; refine w_not ?_)
  | (with_reducible show W _ _ _ _ (isTrue (Expr.BoolOp _ _ _) _ _) _ _; refine w_bool ?_)
  | (with_reducible show W _ _ _ _ (allTrue .And [] _) _ _; refine w_andNil ?_)
  | (with_reducible show W _ _ _ _ (allTrue .Or [] _) _ _; refine w_orNil ?_)
  | (with_reducible show W _ _ _ _ (allTrue .And (_ :: _) _) _ _; refine w_and ?_)
  | (with_reducible show W _ _ _ _ (allTrue .Or (_ :: _) _) _ _; refine w_or ?_)
  | (with_reducible show W _ _ _ _ (isTrue (Expr.Compare _ [_] [_] _) _ _) _ _; refine w_tcmp ?_)
  | (with_reducible show W _ _ _ _ (isTrue _ _ _) _ _; refine w_tval ?_)
  | (with_reducible show W _ _ _ _ (storeName _ _ _) _ _; first | refine w_storeL (by with_unfolding_all rfl) ?_ | refine w_storeC (by with_unfolding_all rfl) (by k_places) ?_)
  | (with_reducible show W _ _ _ _ (tests [_] _) _ _; refine w_tests1 ?_)
  | (with_reducible show W _ _ _ _ (tests [] _) _ _; refine w_tests0 ?_)
  | (with_reducible show W _ _ _ _ (eval (Expr.ListComp _ [Comprehension.mk _ _ _ _] _ _) _) _ _; refine w_listcomp ?_)
  | (with_reducible show W _ _ _ _ (truthy (.bool _)) _ _; refine w_truthyB ?_)
  | (with_reducible show thenK _ _ Flow.next _; refine thenK_next ?_)
  | (with_reducible show thenK _ _ Flow.brk _; refine thenK_brk ?_)
  | (with_reducible show thenK _ _ Flow.cont _; refine thenK_cont ?_)
  | (with_reducible show thenK _ _ (Flow.ret _) _; refine thenK_ret ?_)
  | (with_reducible show turnK _ _ _ Flow.next _; refine turnK_next ?_)
  | (with_reducible show turnK _ _ _ Flow.brk _; refine turnK_brk ?_)
  | (with_reducible show turnK _ _ _ Flow.cont _; refine turnK_cont ?_)
  | (with_reducible show turnK _ _ _ (Flow.ret _) _; refine turnK_ret ?_))

def isV (a : Addr) (v : Value) : Bool := match v with
  | .ref c => decide (c = a)
  | _ => false
theorem filter_isV (a : Addr) (xs : List Addr) : (xs.map Value.ref).filter (isV a) = (xs.filter (fun c => decide (c = a))).map .ref := by
  rw [List.filter_map]; rfl
theorem filter_isV_len (a : Addr) (xs : List Addr) : ((xs.map Value.ref).filter (isV a)).length = xs.count a := by
  rw [filter_isV, List.length_map, List.count_eq_countP, List.countP_eq_length_filter]
  rfl

theorem c_once {b : Base} (G : Glb b) {A : Around} {F : Fs} {L : Addr} {σ : Sg} {n : Nat} {lt ld : Addr} {told due : List Addr} (R : Rm A (n + 1)) (ht : σ.at_ lt = some (.lst (told.map .ref))) (hd : σ.at_ ld = some (.lst (due.map .ref)))
    (hx : ∀ a ∈ told, Th σ a) (hy : ∀ a ∈ due, Th σ a) (hz : told.length ≤ 2 ^ 20 ∧ due.length ≤ 2 ^ 20) :
    WC b A F L (.call (.ref 179) ⟨[.ref lt, .ref ld], []⟩) σ fun v σ' => v = .bool (decide (told.length = (due.filter fun t => told.count t == 1).length ∧ told.length = due.length)) ∧ ESt σ σ' := by
  refine wc_fn1 (fd := fOnce.1) (binds := [("told", Value.ref lt), ("due", Value.ref ld)]) G (fOnce.2 _) (by kernel_rfl) rfl R.dep rfl fun L' => ?_
  intro ct hct
  refine ⟨⟨none, putA_same⟩, ?_⟩
  show W _ _ _ _ _ _ _
  have hct' : σ.at_ ct = none := hct
  have hE0 : Ext σ (((((σ.setM fun x => none).put ct (Cl.cel none)).put ct (.cel (some (.ref lt)))).setL "due" (.ref ld))) := Ext.setL (Ext.putN (Ext.put (Ext.setM Ext.rfl) hct) hct')
  have hcell : (((((σ.setM fun x => none).put ct (Cl.cel none)).put ct (.cel (some (.ref lt)))).setL "due" (.ref ld))).at_ ct = some (.cel (some (.ref lt))) := putA_same
  generalize hτ : (((((σ.setM fun x => none).put ct (Cl.cel none)).put ct (.cel (some (.ref lt)))).setL "due" (.ref ld))) = τ at hE0 hcell
  have hτm : τ.m "due" = some (.ref ld) := by rw [← hτ]; exact getL_same
  show W b _ _ _ _ τ _
  repeat k_subL
  rotate_left
  · simp only [List.length_map]; omega
  refine w_compC (fun v => told.count (match v with | .ref a => a | _ => 0) == 1) (cl := [("told", ct)]) (by with_unfolding_all rfl) (by rfl) (by decide) (fun τ k h => h) (fun C cs => by with_unfolding_all rfl) (by decide) ?_
  repeat k_subL
  refine iter_list (hE0.at_ _ _ hd) fun a => ⟨due.map .ref, _, _, rfl, Its.list R.deeper.hh, Self.list, fun τ' hE => hE.at_ _ _ (hE0.at_ _ _ hd), by rw [sizeLine_eq]; simp only [List.length_map]; omega, fun v hv τ' C F' c hE hc hcv => ?_, fun τ' acc hE hacc hm => ?_⟩
  · obtain ⟨x, hxm, rfl⟩ := List.mem_map.mp hv
    have hE1 : Ext σ τ' := hE0.trans hE
    have hcell' := hE.at_ _ _ hcell
    repeat k_subL
    refine w_compF (isV x) (cl := [("tree", c)]) R.deeper.hh (by with_unfolding_all rfl) (by rfl) (by decide) (by decide) (by decide) (by decide) ?_
    repeat k_subL
    refine ⟨lt, told.map .ref, rfl, hE1.at_ _ _ ht, by rw [sizeLine_eq]; simp only [List.length_map]; omega, fun v hv τ2 C2 F2 hE2 hm2 => ?_, fun τ2 acc2 hE2 hacc2 hm2 => ?_⟩
    · obtain ⟨y, hym, rfl⟩ := List.mem_map.mp hv
      have hcv2 := hE2.at_ _ _ hcv
      repeat k_subL
      obtain ⟨C3, d3, q3⟩ := hx y hym
      obtain ⟨C4, d4, q4⟩ := hy x hxm
      refine w_is ((hE1.trans hE2).at_ _ _ q3) ((hE1.trans hE2).at_ _ _ q4) ?_
      repeat k_subL
      exact ⟨rfl, Ext.rfl, hm2⟩
    · have hfl := filter_isV_len x told
      repeat k_subL
      · exact ⟨by show _ = (told.count x == 1); rw [hfl]; rw [Bool.eq_iff_iff]; simp only [beq_iff_eq]; omega, Ext.put hE2 hacc2⟩
      · rw [hfl]; have := List.count_le_length (a := x) (l := told); omega
  · have hE1 : Ext σ τ' := hE0.trans hE
    have hfil : (due.map Value.ref).filter (fun v => told.count (match v with | .ref a => a | _ => 0) == 1) = (due.filter fun t => told.count t == 1).map .ref := by rw [List.filter_map]; rfl
    rw [hfil]
    have hfle : (due.filter fun t => told.count t == 1).length ≤ due.length := List.length_filter_le _ _
    repeat k_subL
    rotate_left
    · simp only [List.length_map]; omega
    simp only [List.length_map]
    refine ⟨fun hb => ?_, fun hb => ?_⟩
    · repeat k_subL
      refine ⟨?_, ⟨(show Ext σ _ by k_offL).setM, rfl⟩⟩
      have : told.length ≠ (due.filter fun t => told.count t == 1).length := fun e => by rw [e] at hb; simp at hb
      simp [retOf, this]
    · have he : told.length = (due.filter fun t => told.count t == 1).length := by
        have : (told.length : Int) = (due.filter fun t => told.count t == 1).length := by simpa using hb
        omega
      have hm' : (τ'.put acc (.lst ((due.filter fun t => told.count t == 1).map .ref))).m "due" = some (.ref ld) := by
        show τ'.m _ = _; rw [hm]; exact hτm
      have hc' := hE.at_ _ _ hcell
      have hd' := hE1.at_ _ _ hd
      have ht' := hE1.at_ _ _ ht
      repeat k_subL
      · simp only [List.length_map]
        refine ⟨?_, ⟨(show Ext σ _ by k_offL).setM, rfl⟩⟩
        simp only [retOf]
        congr 1
        rw [Bool.eq_iff_iff]
        simp only [beq_iff_eq, decide_eq_true_eq]
        exact ⟨fun h => ⟨he, by omega⟩, fun h => by omega⟩
      · simp only [List.length_map]; omega
      · simp only [List.length_map]; omega
end PartB8

section PartC1
open PySem PySem.W PyProof.Rows PySem.Calls
set_option maxRecDepth 100000
set_option maxHeartbeats 4000000
set_option linter.unusedVariables false

-- what the script builds
inductive Kid where
  | t (j : Nat)
  | k (kd v : Str)
abbrev Bl := List (Str × List Kid)
def addKid (B : Bl) (u : Nat) (c : Kid) : Bl := match B[u]? with
  | some p => B.set u (p.1, p.2 ++ [c])
  | none => B
def kindName (kind : Int) : Str := if kind = 1 then "b" else if kind = 2 then "c" else "a"
def under (B : Bl) (num : Int) : Nat := ((num.fdiv 4).fmod B.length).toNat
def tokKind (num : Int) : Str := if (num.fdiv 48).fmod 2 = 0 then "X" else "Y"
def bstep (B : Bl) (k : Nat) (num : Int) : Bl :=
  if num.fmod 4 = 0 then addKid B (under B num) (.k (tokKind num) (toString (k : Int)))
  else if num.fmod 4 = 3 ∧ under B num + 1 < B.length then addKid B (under B num) (.t (B.length - 1))
  else addKid (B ++ [(kindName (num.fmod 4), [])]) (under B num) (.t B.length)
def builtN (ns : List Int) : Nat → Bl
  | 0 => [("a", [])]
  | k + 1 => bstep (builtN ns k) k (ns.getD k 0)
def built (ns : List Int) : Bl := builtN ns (min ns.length 11)

structure Rec where
  a : Addr
  d : Addr
  l : Addr
  nm : Str
  ks : List Addr
structure TkR where
  a : Addr
  d : Addr
  kd : Str
  v : Str

theorem nodup_get {α : Type} {l : List α} (h : l.Nodup) {i j : Nat} {a : α} (h1 : l[i]? = some a) (h2 : l[j]? = some a) : i = j := by
  obtain ⟨p1, q1⟩ := List.getElem?_eq_some_iff.mp h1
  obtain ⟨p2, q2⟩ := List.getElem?_eq_some_iff.mp h2
  exact (List.getElem_inj h).mp (q1.trans q2.symm)
theorem set_same {α : Type} {l : List α} {u : Nat} {x : α} (h : l[u]? = some x) : l.set u x = l := by
  apply List.ext_getElem?
  intro i
  rw [List.getElem?_set]
  split
  · rename_i e; subst e
    split
    · exact h.symm
    · rename_i hn; rw [List.getElem?_eq_none (by omega)] at h; cases h
  · rfl

def KidR (rs : List Rec) (tk : List TkR) : Kid → Addr → Prop
  | .t j, c => (rs.map (·.a))[j]? = some c
  | .k kd v, c => ∃ d, (⟨c, d, kd, v⟩ : TkR) ∈ tk
theorem KidR.mono {rs rs' : List Rec} {tk tk' : List TkR} {k : Kid} {c : Addr} (h : KidR rs tk k c) (e : ∀ (j : Nat) (c : Addr), (rs.map (·.a))[j]? = some c → (rs'.map (·.a))[j]? = some c) (et : ∀ t ∈ tk, t ∈ tk') : KidR rs' tk' k c := by
  cases k with
  | t j => exact e _ _ h
  | k kd v => obtain ⟨d, hd⟩ := h; exact ⟨d, et _ hd⟩

/-- the records and what they stand for -/
structure Bld (σ₀ σ : Sg) (B : Bl) (rs : List Rec) (tk : List TkR) : Prop where
  at_ : ∀ r ∈ rs, NdAt σ r.a (.node r.d r.l r.nm r.ks)
  tok : ∀ t ∈ tk, NdAt σ t.a (.tok t.d t.kd t.v)
  ra : (rs.map (·.a)).Nodup
  rl : (rs.map (·.l)).Nodup
  rd : (rs.map (·.d)).Nodup
  new : ∀ r ∈ rs, σ₀.at_ r.a = none ∧ σ₀.at_ r.d = none ∧ σ₀.at_ r.l = none
  newt : ∀ t ∈ tk, σ₀.at_ t.a = none
  sh : Paired (fun r (p : Str × List Kid) => r.nm = p.1 ∧ Paired (KidR rs tk) p.2 r.ks) rs B

theorem Paired.get {α β : Type} {R : α → β → Prop} {l₁ : List α} {l₂ : List β} (h : Paired R l₁ l₂) {i : Nat} {x : α} (hx : l₁[i]? = some x) : ∃ y, l₂[i]? = some y ∧ R x y := by
  induction h generalizing i with
  | nil => simp at hx
  | cons h t ih =>
    cases i with
    | zero => simp at hx; subst hx; exact ⟨_, rfl, h⟩
    | succ i => simp at hx; obtain ⟨y, h1, h2⟩ := ih hx; exact ⟨y, by simpa using h1, h2⟩
theorem Paired.set {α β : Type} {R : α → β → Prop} {l₁ : List α} {l₂ : List β} (h : Paired R l₁ l₂) {i : Nat} {x : α} {y : β} (hR : R x y) : Paired R (l₁.set i x) (l₂.set i y) := by
  induction h generalizing i with
  | nil => exact .nil
  | cons h t ih => cases i with
    | zero => exact .cons hR t
    | succ i => exact .cons h ih

theorem Bld.ext {σ₀ σ τ : Sg} {B : Bl} {rs : List Rec} {tk : List TkR} (x : Bld σ₀ σ B rs tk) (e : Ext σ τ) : Bld σ₀ τ B rs tk :=
  ⟨fun r h => (x.at_ r h).ext e, fun t h => (x.tok t h).ext e, x.ra, x.rl, x.rd, x.new, x.newt, x.sh⟩
theorem Bld.len {σ₀ σ : Sg} {B : Bl} {rs : List Rec} {tk : List TkR} (x : Bld σ₀ σ B rs tk) : rs.length = B.length := x.sh.length

/-- a child more -/
theorem Bld.addKid {σ₀ σ : Sg} {B : Bl} {rs : List Rec} {tk : List TkR} {u : Nat} {r : Rec} {k : Kid} {c : Addr} (x : Bld σ₀ σ B rs tk) (hr : rs[u]? = some r) (hk : KidR rs tk k c) :
    Bld σ₀ (σ.put r.l (.lst ((r.ks ++ [c]).map .ref))) (addKid B u k) (rs.set u { r with ks := r.ks ++ [c] }) tk := by
  have hrm : r ∈ rs := List.mem_of_getElem? hr
  have ma : (rs.set u { r with ks := r.ks ++ [c] }).map (·.a) = rs.map (·.a) := by rw [List.map_set]; exact set_same (by rw [List.getElem?_map, hr]; rfl)
  have ml : (rs.set u { r with ks := r.ks ++ [c] }).map (·.l) = rs.map (·.l) := by rw [List.map_set]; exact set_same (by rw [List.getElem?_map, hr]; rfl)
  have md : (rs.set u { r with ks := r.ks ++ [c] }).map (·.d) = rs.map (·.d) := by rw [List.map_set]; exact set_same (by rw [List.getElem?_map, hr]; rfl)
  have mem : ∀ q ∈ rs.set u { r with ks := r.ks ++ [c] }, q = { r with ks := r.ks ++ [c] } ∨ (q ∈ rs ∧ q.l ≠ r.l) := by
    intro q hq
    obtain ⟨i, hi⟩ := List.mem_iff_getElem?.mp hq
    rw [List.getElem?_set] at hi
    split at hi
    · split at hi
      · cases hi; exact .inl rfl
      · cases hi
    · rename_i hne
      refine .inr ⟨List.mem_of_getElem? hi, fun e => hne ?_⟩
      have h1 : (rs.map (·.l))[i]? = some r.l := by rw [List.getElem?_map, hi]; simp [e]
      have h2 : (rs.map (·.l))[u]? = some r.l := by rw [List.getElem?_map, hr]; rfl
      have hi' := (List.getElem?_eq_some_iff.mp h1).1
      exact (nodup_get x.rl h1 h2).symm
  obtain ⟨p, hp, hpn, hpk⟩ := Paired.get x.sh hr
  have lst_ne : ∀ {y : Addr} {cl : Cl}, σ.at_ y = some cl → (∀ xs, cl ≠ .lst xs) → y ≠ r.l := fun h hn e => by
    rw [e, (x.at_ r hrm).2] at h; cases h; exact hn _ rfl
  have keepI : ∀ {y C d es}, Inst σ y C d es → Inst (σ.put r.l (.lst ((r.ks ++ [c]).map .ref))) y C d es := fun I => ⟨putA_ne (lst_ne I.1 (by simp)) I.1, putA_ne (lst_ne I.2 (by simp)) I.2⟩
  refine ⟨fun q hq => ?_, fun t ht => ?_, by rw [ma]; exact x.ra, by rw [ml]; exact x.rl, by rw [md]; exact x.rd, fun q hq => ?_, x.newt, ?_⟩
  · rcases mem q hq with rfl | ⟨hq, hl⟩
    · obtain ⟨⟨t, I⟩, h⟩ := x.at_ r hrm
      exact ⟨⟨t, keepI I⟩, putA_same⟩
    · obtain ⟨⟨t, I⟩, h⟩ := x.at_ q hq
      exact ⟨⟨t, keepI I⟩, putA_ne hl h⟩
  · obtain ⟨t1, u1, I⟩ := x.tok t ht
    exact ⟨t1, u1, keepI I⟩
  · rcases mem q hq with rfl | ⟨hq, hl⟩
    · exact x.new r hrm
    · exact x.new q hq
  · unfold Mine.addKid
    rw [hp]
    have all : Paired (fun r' (p : Str × List Kid) => r'.nm = p.1 ∧ Paired (KidR (rs.set u { r with ks := r.ks ++ [c] }) tk) p.2 r'.ks) rs B := Paired.mono (fun a b ⟨h1, h2⟩ => ⟨h1, Paired.mono (fun k c h => KidR.mono h (fun j c h => by rw [ma]; exact h) fun _ h => h) h2⟩) x.sh
    refine Paired.set all ⟨hpn, ?_⟩
    exact Paired.snoc (Paired.mono (fun k c h => KidR.mono h (fun j c h => by rw [ma]; exact h) fun _ h => h) hpk) (KidR.mono hk (fun j c h => by rw [ma]; exact h) fun _ h => h)
/-- a token more -/
theorem Bld.addTok {σ₀ σ τ : Sg} {B : Bl} {rs : List Rec} {tk : List TkR} {t : TkR} (x : Bld σ₀ σ B rs tk) (e : Ext σ τ) (ht : NdAt τ t.a (.tok t.d t.kd t.v)) (hn : σ₀.at_ t.a = none) : Bld σ₀ τ B rs (t :: tk) :=
  ⟨fun r h => (x.at_ r h).ext e, fun t' h => by
    rcases List.mem_cons.mp h with rfl | h
    · exact ht
    · exact (x.tok t' h).ext e, x.ra, x.rl, x.rd, x.new, fun t' h => by
    rcases List.mem_cons.mp h with rfl | h
    · exact hn
    · exact x.newt t' h, Paired.mono (fun a b ⟨h1, h2⟩ => ⟨h1, Paired.mono (fun k c h => KidR.mono h (fun _ _ h => h) fun _ h => .tail _ h) h2⟩) x.sh⟩
/-- a tree more -/
theorem Bld.addTree {σ₀ σ τ : Sg} {B : Bl} {rs : List Rec} {tk : List TkR} {r : Rec} (x : Bld σ₀ σ B rs tk) (e : Ext σ τ) (hr : NdAt τ r.a (.node r.d r.l r.nm r.ks)) (hk : r.ks = [])
    (hn : σ₀.at_ r.a = none ∧ σ₀.at_ r.d = none ∧ σ₀.at_ r.l = none) (hf : σ.at_ r.a = none ∧ σ.at_ r.d = none ∧ σ.at_ r.l = none) : Bld σ₀ τ (B ++ [(r.nm, [])]) (rs ++ [r]) tk := by
  have fr : ∀ q ∈ rs, q.a ≠ r.a ∧ q.d ≠ r.d ∧ q.l ≠ r.l := fun q hq => by
    obtain ⟨⟨t, I1, I2⟩, h⟩ := x.at_ q hq
    refine ⟨fun e => ?_, fun e => ?_, fun e => ?_⟩
    · rw [e, hf.1] at I1; cases I1
    · rw [e, hf.2.1] at I2; cases I2
    · rw [e, hf.2.2] at h; cases h
  have nod : ∀ f : Rec → Addr, (rs.map f).Nodup → (∀ q ∈ rs, f q ≠ f r) → ((rs ++ [r]).map f).Nodup := fun f h1 h2 => by
    rw [List.map_append, List.nodup_append]
    refine ⟨h1, by simp, fun a ha b hb => ?_⟩
    obtain ⟨q, hq, rfl⟩ := List.mem_map.mp ha
    simp at hb; subst hb
    exact h2 q hq
  refine ⟨fun q hq => ?_, fun t ht => (x.tok t ht).ext e, nod _ x.ra fun q hq => (fr q hq).1, nod _ x.rl fun q hq => (fr q hq).2.2, nod _ x.rd fun q hq => (fr q hq).2.1, fun q hq => ?_, x.newt, ?_⟩
  · rcases List.mem_append.mp hq with hq | hq
    · exact (x.at_ q hq).ext e
    · simp at hq; subst hq; exact hr
  · rcases List.mem_append.mp hq with hq | hq
    · exact x.new q hq
    · simp at hq; subst hq; exact hn
  · refine Paired.snoc (Paired.mono (fun a b ⟨h1, h2⟩ => ⟨h1, Paired.mono (fun k c h => KidR.mono h (fun j c h => ?_) fun _ h => h) h2⟩) x.sh) ⟨rfl, by rw [hk]; exact .nil⟩
    rw [List.map_append, List.getElem?_append_left]
    · exact h
    · exact (List.getElem?_eq_some_iff.mp h).1
end PartC1

section PartC2
open PySem PySem.W PyProof.Rows PySem.Calls
set_option maxRecDepth 100000
set_option maxHeartbeats 400000
set_option linter.unusedVariables false

section
variable {b : Base} {A : Around} {F : Fs} {L : Addr} {σ : Sg} {env : Env}
theorem St.isListB {s : Shared} {l : Addr} {xs : List Value} (y : St b F L σ s) (h : b.h.IsList l xs.toArray) : s.heap.IsList l xs.toArray := h.at fun o e => y.keep _ _ e
theorem w_lenB {l : Addr} {xs : List Value} {Q : Value → Sg → Prop} (hl : b.h.IsList l xs.toArray) (hz : xs.length < 2 ^ 62) (h : ∀ t, Q (.int xs.length t) σ) : W b A F L (call (.builtin "len") [.ref l]) σ Q := fun s E y =>
  call_len_list (y.isListB hl) (by simp; omega) ⟨σ, y.toks _, by have := h (s.toks + 1); simpa using this⟩
theorem w_truthyB' {l : Addr} {xs : List Value} {Q : Bool → Sg → Prop} (hl : b.h.IsList l xs.toArray) (hz : xs.length < 2 ^ 62) (h : Q (!xs.isEmpty) σ) : W b A F L (truthy (.ref l)) σ Q := fun s E y =>
  wpAny_truthy_list (y.isListB hl) (by simp; omega) ⟨σ, y.toks _, by simpa using h⟩
theorem w_itemB {value slice} {l : Addr} {xs : List Value} {k : Nat} {t : Tok} {v : Value} {Q : Value → Sg → Prop} (hl : b.h.IsList l xs.toArray) (hk : xs[k]? = some v) (hz : xs.length < 2 ^ 62) (h : Q v σ)
    (hs : subscripted slice false (.ref l) (.int k t) = operate [.ref l, .int k t] (getItem (.ref l) (.int k t)) := by with_unfolding_all rfl) : W b A F L (subscriptTail value slice (.ref l) (.int k t)) σ Q := fun s E y => by
  have hlt : k < xs.length := (List.getElem?_eq_some_iff.mp hk).1
  exact tail_any (y.isListB hl).typeIs slot_list_getitem.lookup (wpAny_getItem_list (y.isListB hl) (by omega) (by omega) (by simpa using hk) ⟨σ, y, h⟩) hs
end
theorem intsGet {vs : List Value} {ns : List Int} (h : IntsAre vs ns) : ∀ k, k < ns.length → ∃ t, vs[k]? = some (.int (ns.getD k 0) t) := by
  induction h with
  | nil => intro k hk; simp at hk
  | cons n t r ih =>
    intro k hk
    cases k with
    | zero => exact ⟨t, rfl⟩
    | succ k => obtain ⟨t', e⟩ := ih k (by simpa using hk); exact ⟨t', by simpa using e⟩
theorem Ext.back {σ τ : Sg} {x : Addr} (e : Ext σ τ) (h : τ.at_ x = none) : σ.at_ x = none := by
  cases q : σ.at_ x with
  | none => rfl
  | some c => rw [e.at_ _ _ q] at h; cases h
theorem addKid_len (B : Bl) (u : Nat) (c : Kid) : (addKid B u c).length = B.length := by unfold addKid; split <;> simp

theorem tupXY {num : Int} {q : Nat} {t u : Tok} (hq : (num.fdiv 48).fmod 2 = q) (hq2 : q < 2) : ([Value.str "X" t, Value.str "Y" u] : List Value)[q]? = some (.str (tokKind num) (if q = 0 then t else u)) := by
  unfold tokKind; rw [hq]
  have : q = 0 ∨ q = 1 := by omega
  rcases this with rfl | rfl <;> rfl
theorem keepL {rs : List Rec} {u : Nat} {r : Rec} {c lt : Addr} (hr : rs[u]? = some r) (h : ∀ r ∈ rs, r.l ≠ lt) : ∀ q ∈ rs.set u { r with ks := r.ks ++ [c] }, q.l ≠ lt := by
  intro q hq
  rcases List.mem_or_eq_of_mem_set hq with h1 | rfl
  · exact h q h1
  · exact h r (List.mem_of_getElem? hr)
theorem keepA {rs : List Rec} {u : Nat} {r : Rec} {c : Addr} (hr : rs[u]? = some r) : (rs.set u { r with ks := r.ks ++ [c] }).map (·.a) = rs.map (·.a) := by
  rw [List.map_set]; exact set_same (by rw [List.getElem?_map, hr]; rfl)
theorem keepK {rs : List Rec} {u i : Nat} {r : Rec} {c : Addr} (hr : rs[u]? = some r) (h : ∀ r ∈ rs, r.ks.length ≤ i) : ∀ q ∈ rs.set u { r with ks := r.ks ++ [c] }, q.ks.length ≤ i + 1 := by
  intro q hq
  rcases List.mem_or_eq_of_mem_set hq with h1 | rfl
  · have := h q h1; omega
  · have := h r (List.mem_of_getElem? hr); simp; omega
theorem tupABC {num : Int} {q : Nat} {t u v : Tok} (h0 : 0 ≤ num.fmod 4) (h1 : num.fmod 4 < 4) (h2 : ¬ num.fmod 4 = 0) (hq : (num.fmod 4).fmod 3 = q) (hq2 : q < 3) :
    ([Value.str "a" t, Value.str "b" u, Value.str "c" v] : List Value)[q]? = some (.str (kindName (num.fmod 4)) (if q = 0 then t else if q = 1 then u else v)) := by
  generalize num.fmod 4 = m at *
  have : m = 1 ∨ m = 2 ∨ m = 3 := by omega
  rcases this with rfl | rfl | rfl
  · have : q = 1 := by have : (1 : Int).fmod 3 = 1 := by decide
                       omega
    subst this; rfl
  · have : q = 2 := by have : (2 : Int).fmod 3 = 2 := by decide
                       omega
    subst this; rfl
  · have : q = 0 := by have : (3 : Int).fmod 3 = 0 := by decide
                       omega
    subst this; rfl
theorem Bld.putL {σ₀ σ : Sg} {B : Bl} {rs : List Rec} {tk : List TkR} {lt : Addr} {xs ys : List Value} (x : Bld σ₀ σ B rs tk) (hl : σ.at_ lt = some (.lst xs)) (hn : ∀ r ∈ rs, r.l ≠ lt) : Bld σ₀ (σ.put lt (.lst ys)) B rs tk := by
  have keepI : ∀ {y C d es}, Inst σ y C d es → Inst (σ.put lt (.lst ys)) y C d es := fun I => ⟨putA_ne (fun e => by have := I.1; rw [e, hl] at this; cases this) I.1, putA_ne (fun e => by have := I.2; rw [e, hl] at this; cases this) I.2⟩
  refine ⟨fun q hq => ?_, fun t ht => ?_, x.ra, x.rl, x.rd, x.new, x.newt, x.sh⟩
  · obtain ⟨⟨t, I⟩, h⟩ := x.at_ q hq
    exact ⟨⟨t, keepI I⟩, putA_ne (hn q hq) h⟩
  · obtain ⟨t1, u1, I⟩ := x.tok t ht
    exact ⟨t1, u1, keepI I⟩
local macro_rules | `(tactic| k_clsL) => `(tactic| first
  | with_reducible assumption
  | (with_reducible show Sg.m (Sg.setL _ _ _) _ = some _; first | with_reducible exact getL_same | (apply getL_skip; with_unfolding_all decide; k_clsL))
  | (with_reducible show Sg.m (Sg.put _ _ _) _ = some _; apply putM; k_clsL)
  | (with_reducible show Sg.m (Sg.del _ _) _ = some _; apply delM; k_clsL)
  | (with_reducible show Sg.m (Sg.setM _ _) _ = some _; apply setMM; k_clsL)
  | (apply viaM; with_reducible assumption; k_clsL)
  | (apply viaE; with_reducible assumption; k_clsL))
local macro_rules | `(tactic| k_offL) => `(tactic| first
  | with_reducible assumption
  | with_reducible exact Ext.rfl
  | (with_reducible show Ext _ (Sg.setL _ _ _); refine Ext.setL ?_; k_offL)
  | (with_reducible show Ext _ (Sg.put _ _ _); refine Ext.put ?_ (by first | with_reducible assumption | with_reducible exact setA (by with_reducible assumption)); k_offL)
  | (with_reducible show Ext _ (Sg.setM _ _); refine Ext.setM ?_; k_offL)
  | (with_reducible refine Ext.tr (by with_reducible assumption) ?_; k_offL)
  | (with_reducible refine Ext.tr2 (by with_reducible assumption) ?_; k_offL))
local macro_rules | `(tactic| k_places) => `(tactic| first
  | with_reducible assumption
  | with_reducible exact putA_same
  | (with_reducible show Sg.at_ (Sg.setL _ _ _) _ = some _; apply setA; k_places)
  | (with_reducible show Sg.at_ (Sg.setM _ _) _ = some _; apply setMA; k_places)
  | (with_reducible show Sg.at_ (Sg.put _ _ _) _ = some _; apply putA_new; with_reducible assumption; k_places)
  | (apply ESt.at_; with_reducible assumption; k_places)
  | (apply Ext.at'; with_reducible assumption; k_places))
local macro_rules | `(tactic| k_subL) => `(tactic| first
  | (with_reducible show W _ _ _ _ (spliced (backTo _ (starEach [] _))) _ _; refine w_items0 ?_)
  | (with_reducible show W _ _ _ _ (spliced (backTo _ (starEach (_ :: _) _))) _ _; refine w_items ?_)
  | (with_reducible show W _ _ _ _ (eval (Expr.Name _ _) _) _ _; first | refine w_local (by with_unfolding_all rfl) (by k_clsL) ?_ | refine w_cell (by with_unfolding_all rfl) (by k_places) ?_ | (with_reducible show W _ _ _ _ (eval (Expr.Name ("Tree" : Str) _) _) _ _; refine w_glob (v := .ref 142) (by assumption) (by kernel_rfl) ?_) | (with_reducible show W _ _ _ _ (eval (Expr.Name ("Token" : Str) _) _) _ _; refine w_glob (v := .ref 45) (by assumption) (by kernel_rfl) ?_))
  | (with_reducible show W _ _ _ _ (eval (Expr.Call (Expr.Name ("isinstance" : Str) _) _ [] _) _) _ _; refine w_callB (n := "isinstance") (by assumption) boot_isi (by kernel_rfl) ?_)
  | (with_reducible show W _ _ _ _ (eval (Expr.Call (Expr.Name ("len" : Str) _) _ [] _) _) _ _; refine w_callB (n := "len") (by assumption) boot_len (by kernel_rfl) ?_)
  | (with_reducible show W _ _ _ _ (eval (Expr.Call (Expr.Name ("min" : Str) _) _ [] _) _) _ _; refine w_callB (n := "min") (by assumption) boot_min (by kernel_rfl) ?_)
  | (with_reducible show W _ _ _ _ (eval (Expr.Call (Expr.Name ("range" : Str) _) _ [] _) _) _ _; refine w_callT (n := "range") (by assumption) boot_range (by kernel_rfl) ?_)
  | (with_reducible show W _ _ _ _ (eval (Expr.Call (Expr.Name ("str" : Str) _) _ [] _) _) _ _; refine w_callT (n := "str") (by assumption) boot_str (by kernel_rfl) ?_)
  | (with_reducible show W _ _ _ _ (eval (Expr.Call (Expr.Name ("list" : Str) _) _ [] _) _) _ _; refine w_callT (n := "list") (by assumption) boot_list (by kernel_rfl) ?_)
  | (with_reducible show W _ _ _ _ (eval (Expr.Call (Expr.Name ("reversed" : Str) _) _ [] _) _) _ _; refine w_callT (n := "reversed") (by assumption) boot_rev (by kernel_rfl) ?_)
  | (with_reducible show W _ _ _ _ (eval (Expr.Call (Expr.Name ("filter" : Str) _) _ [] _) _) _ _; refine w_callT (n := "filter") (by assumption) boot_filter (by kernel_rfl) ?_)
  | (with_reducible show W _ _ _ _ (call (.builtin "len") [.ref _]) _ _; (refine w_len (by k_places) ?_ fun _ => ?_); rotate_left)
  | (with_reducible show W _ _ _ _ (binaryOp .Add (.int _ _) (.int _ _)) _ _; refine w_addI fun _ => ?_)
  | (with_reducible show W _ _ _ _ (binaryOp .Sub (.int _ _) (.int _ _)) _ _; refine w_subI fun _ => ?_)
  | (with_reducible show W _ _ _ _ (compareOp .Eq (.int _ _) (.int _ _)) _ _; refine w_eqI ?_)
  | (with_reducible show W _ _ _ _ (compareOp .NotEq (.int _ _) (.int _ _)) _ _; refine w_neI ?_)
  | (with_reducible show W _ _ _ _ (compareOp .Lt (.int _ _) (.int _ _)) _ _; refine w_ltI ?_)
  | (with_reducible show W _ _ _ _ (compareOp .Eq (.str _ _) (.str _ _)) _ _; refine w_eqS ?_)
  | (with_reducible show W _ _ _ _ (compareOp .NotEq (.bool _) (.bool _)) _ _; refine w_neB ?_)
  | (with_reducible show W _ _ _ _ (unaryOp .USub (.int _ _)) _ _; refine w_negI fun _ => ?_)
  | (with_reducible show W _ _ _ _ (unaryOp .Not _) _ _; refine w_notv ?_)
  | (with_reducible show W _ _ _ _ (eval (Expr.Attribute _ _ _) _) _ _; refine w_attr ?_)
  | (with_reducible show W _ _ _ _ (eval (Expr.List _ _) _) _ _; refine w_list ?_)
  | (with_reducible show W _ _ _ _ (eval (Expr.Tuple _ _ _) _) _ _; refine w_tuple ?_)
  | (with_reducible show W _ _ _ _ (eval (Expr.BinOp _ _ _ _) _) _ _; refine w_binop ?_)
  | (with_reducible show W _ _ _ _ (eval (Expr.Compare _ [_] [_] _) _) _ _; refine w_cmp ?_)
  | (with_reducible show W _ _ _ _ (eval (Expr.IfExp _ _ _ _) _) _ _; refine w_ifexp ?_)
  | (with_reducible show W _ _ _ _ (eval (Expr.Subscript _ _ _) _) _ _; refine w_sub ?_)
  | (with_reducible show W _ _ _ _ (eval (Expr.UnaryOp _ _ _) _) _ _; refine w_unop ?_)
  | (with_reducible show W _ _ _ _ (eval (Expr.Constant .none _ _) _) _ _; refine w_none ?_)
  | (with_reducible show W _ _ _ _ (eval (Expr.Constant (.bool _) _ _) _) _ _; refine w_tf ?_)
  | (with_reducible show W _ _ _ _ (eval (Expr.Constant (.int _) _ _) _) _ _; refine w_int ?_; intro _)
  | (with_reducible show W _ _ _ _ (eval (Expr.Constant (.str _) _ _) _) _ _; refine w_str ?_; intro _)
  | (with_reducible show W _ _ _ _ (execs [] _) _ _; refine w_nil ?_)
  | (with_reducible show W _ _ _ _ (execs (Stmt.Assign [Expr.Name _ _] (Expr.ListComp _ [Comprehension.mk _ _ _ _] _ _) _ :: _) _) _ _; refine w_cons (w_assignComp ?_))
  | (with_reducible show W _ _ _ _ (execs (Stmt.Assign [Expr.Name _ _] _ _ :: _) _) _ _; refine w_consA ?_)
  | (with_reducible show W _ _ _ _ (execs (Stmt.Assign [Expr.Attribute _ _ _] _ _ :: _) _) _ _; refine w_consAttr ?_)
  | (with_reducible show W _ _ _ _ (execs (Stmt.Assign [Expr.Subscript _ _ _] _ _ :: _) _) _ _; refine w_consSub ?_)
  | (with_reducible show W _ _ _ _ (execs (Stmt.If _ _ [] _ :: _) _) _ _; refine w_consIf ?_)
  | (with_reducible show W _ _ _ _ (execs (Stmt.If _ _ _ _ :: _) _) _ _; refine w_consElse ?_)
  | (with_reducible show W _ _ _ _ (execs (Stmt.Return (some _) _ :: _) _) _ _; refine w_consRet ?_)
  | (with_reducible show W _ _ _ _ (execs (Stmt.Break _ :: _) _) _ _; refine w_consBrk ?_)
  | (with_reducible show W _ _ _ _ (execs (Stmt.Continue _ :: _) _) _ _; refine w_consCont ?_)
  | (with_reducible show W _ _ _ _ (execs (Stmt.Expr (Expr.Call (Expr.Attribute _ _ _) [_] [] _) _ :: _) _) _ _; refine w_consApp ?_)
  | (with_reducible show W _ _ _ _ (execs (Stmt.Expr _ _ :: _) _) _ _; refine w_consE ?_)
  | (with_reducible show W _ _ _ _ (isTrue (Expr.UnaryOp .Not _ _) _ _) _ _; refine w_not ?_)
  | (with_reducible show W _ _ _ _ (isTrue (Expr.BoolOp _ _ _) _ _) _ _; refine w_bool ?_)
  | (with_reducible show W _ _ _ _ (allTrue .And [] _) _ _; refine w_andNil ?_)
  | (with_reducible show W _ _ _ _ (allTrue .Or [] _) _ _; refine w_orNil ?_)
  | (with_reducible show W _ _ _ _ (allTrue .And (_ :: _) _) _ _; refine w_and ?_)
  | (with_reducible show W _ _ _ _ (allTrue .Or (_ :: _) _) _ _; refine w_or ?_)
  | (with_reducible show W _ _ _ _ (isTrue (Expr.Compare _ [_] [_] _) _ _) _ _; refine w_tcmp ?_)
  | (with_reducible show W _ _ _ _ (isTrue _ _ _) _ _; refine w_tval ?_)
  | (with_reducible show W _ _ _ _ (storeName _ _ _) _ _; first | refine w_storeL (by with_unfolding_all rfl) ?_ | refine w_storeC (by with_unfolding_all rfl) (by k_places) ?_)
  | (with_reducible show W _ _ _ _ (tests [_] _) _ _; refine w_tests1 ?_)
  | (with_reducible show W _ _ _ _ (tests [] _) _ _; refine w_tests0 ?_)
  | (with_reducible show W _ _ _ _ (eval (Expr.ListComp _ [Comprehension.mk _ _ _ _] _ _) _) _ _; refine w_listcomp ?_)
  | (with_reducible show W _ _ _ _ (truthy (.bool _)) _ _; refine w_truthyB ?_)
  | (with_reducible show thenK _ _ Flow.next _; refine thenK_next ?_)
  | (with_reducible show thenK _ _ Flow.brk _; refine thenK_brk ?_)
  | (with_reducible show thenK _ _ Flow.cont _; refine thenK_cont ?_)
  | (with_reducible show thenK _ _ (Flow.ret _) _; refine thenK_ret ?_)
  | (with_reducible show turnK _ _ _ Flow.next _; refine turnK_next ?_)
  | (with_reducible show turnK _ _ _ Flow.brk _; refine turnK_brk ?_)
  | (with_reducible show turnK _ _ _ Flow.cont _; refine turnK_cont ?_)
  | (with_reducible show turnK _ _ _ (Flow.ret _) _; refine turnK_ret ?_))

theorem c_built {b : Base} (G : Glb b) {l : Addr} {vs : List Value} {ns : List Int} (hl : b.h.IsList l vs.toArray) (hi : IntsAre vs ns) (hn : ns.length ≤ 63) {A : Around} {F : Fs} {L : Addr} {σ : Sg} {n : Nat} (R : Rm A (n + 1)) :
    WC b A F L (.call (.ref 153) ⟨[.ref l], []⟩) σ fun v σ' => ∃ lt rs tk, v = .ref lt ∧ σ.at_ lt = none ∧ (∀ r ∈ rs, r.l ≠ lt) ∧ σ'.at_ lt = some (.lst ((rs.map (·.a)).map .ref)) ∧ Bld σ σ' (built ns) rs tk ∧ ESt σ σ' := by
  have hvl : vs.length = ns.length := hi.length
  refine wc_fn1 (fd := fBuilt.1) (binds := [("script", Value.ref l)]) G (fBuilt.2 _) (by kernel_rfl) rfl R.dep rfl fun L' => ?_
  show W _ _ _ _ _ _ _
  repeat k_subL
  refine w_call0 (f := 142) G (by kernel_rfl) ?_
  repeat k_subL
  refine w_newList (by rw [sizeLine_eq]; simp) fun l0 hl0 => ?_
  repeat k_subL
  refine WC.call (WC.mono (c_Tree G R.deeper.room) fun v σ1 ⟨x, d, hv, hx, hd, I, hE1⟩ => ?_)
  subst hv
  repeat k_subL
  refine w_newList (by rw [sizeLine_eq]; simp) fun lt hlt => ?_
  repeat k_subL
  refine w_forRange R.deeper.hh (min ns.length 11) 0 1 (fun i τ => Ext σ τ ∧ ∃ lt rs tk, τ.m "trees" = some (.ref lt) ∧ τ.m "script" = some (.ref l) ∧ σ.at_ lt = none ∧ (∀ r ∈ rs, r.l ≠ lt) ∧ τ.at_ lt = some (.lst ((rs.map (·.a)).map .ref)) ∧ Bld σ τ (builtN ns i) rs tk ∧ rs.length ≤ i + 1 ∧ rs ≠ [] ∧ ∀ r ∈ rs, r.ks.length ≤ i) ?_
  repeat k_subL
  refine w_lenB hl (by omega) fun t1 => ?_
  repeat k_subL
  refine w_min R.deeper.hh fun t2 => ?_
  repeat k_subL
  refine w_range1 fun r t3 u3 v3 hr => ?_
  rw [hvl, show min (ns.length : Int) 11 = ((min ns.length 11 : Nat) : Int) by omega]
  have hE1' : Ext σ σ1 := by k_offL
  have hx' : σ.at_ x = none := Ext.back (show Ext σ ((((σ.setM fun x => none).setL "script" (.ref l)).put l0 (Cl.lst []))) by k_offL) hx
  have hd' : σ.at_ d = none := Ext.back (show Ext σ ((((σ.setM fun x => none).setL "script" (.ref l)).put l0 (Cl.lst []))) by k_offL) hd
  have hl0' : σ.at_ l0 = none := hl0
  have hlt' : σ.at_ lt = none := Ext.back hE1' hlt
  have hl0s : σ1.at_ l0 = some (.lst []) := hE1.1.at_ _ _ putA_same
  have hne0 : l0 ≠ lt := fun e => by rw [e, hlt] at hl0s; cases hl0s
  have hrg := range_up 0 (min ns.length 11) (by omega) (by omega)
  refine ⟨r, _, _, _, _, rfl, putA_same, by simpa using hrg.1, by simpa using hrg.2, ⟨by k_offL, lt, [⟨x, d, l0, "a", []⟩], [], by k_clsL, by k_clsL, hlt', ?_, ?_, ?_, by simp, by simp, by simp⟩, fun i t τ Fa hi' ⟨hE, lt, rs, tk, h1, h2, h3, h4, h5, h6, h7, h8, h9⟩ => ?_, fun τ ⟨hE, lt, rs, tk, h1, h2, h3, h4, h5, h6, h7, h8, h9⟩ => ?_⟩
  · intro r' hr'; simp at hr'; subst hr'; exact hne0
  · refine putA_new (by assumption) ?_
    exact setA putA_same
  · have hB : Bld σ σ1 (builtN ns 0) [⟨x, d, l0, "a", []⟩] [] := by
      refine ⟨fun r' hr' => ?_, (fun t h => by cases h), by simp, by simp, by simp, fun r' hr' => ?_, (fun t h => by cases h), Paired.cons ⟨rfl, Paired.nil⟩ Paired.nil⟩
      · simp at hr'; subst hr'; exact ⟨⟨_, I⟩, hl0s⟩
      · simp at hr'; subst hr'; exact ⟨hx', hd', hl0'⟩
    exact hB.ext (by k_offL)
  · rw [show (0 : Int) + (i : Int) * 1 = (i : Int) by omega]
    obtain ⟨tn, hvi⟩ := intsGet hi i (by omega)
    generalize hnum : ns.getD i 0 = num at hvi
    have hBl := h6.len
    have hBn : 0 < rs.length := by cases rs with
      | nil => exact absurd rfl h8
      | cons => simp
    generalize hBB : builtN ns i = B at h6 hBl
    have hstep : builtN ns (i + 1) = bstep B i num := by show bstep (builtN ns i) i (ns.getD i 0) = _; rw [hBB, hnum]
    rw [hstep]
    generalize hu : under B num = u
    have hmod : (num.fdiv 4).fmod ((rs.map (·.a)).map Value.ref).length = (u : Int) := by
      rw [← hu]; unfold under
      rw [List.length_map, List.length_map, hBl]
      have := Int.fmod_nonneg_of_pos (num.fdiv 4) (b := (B.length : Int)) (by omega)
      omega
    have hul : u < rs.length := by
      have h9 := Int.fmod_lt_of_pos (num.fdiv 4) (b := (B.length : Int)) (by omega)
      have h10 := Int.fmod_nonneg_of_pos (num.fdiv 4) (b := (B.length : Int)) (by omega)
      rw [← hu]; unfold under; omega
    have hru : rs[u]? = some rs[u] := List.getElem?_eq_getElem hul
    have hau : ((rs.map (·.a)).map Value.ref)[u]? = some (.ref rs[u].a) := by simp [hul]
    have hnu := h6.at_ rs[u] (List.getElem_mem _)
    refine w_storeL (by with_unfolding_all rfl) ?_
    repeat k_subL
    refine w_itemB hl hvi (by omega) ?_
    repeat k_subL
    refine w_modI (by decide) fun t4 => ?_
    repeat k_subL
    refine w_divI (by decide) (PyProof.noPylong_small (by decide)) fun t5 => ?_
    repeat k_subL
    refine w_modI ?_ fun t6 => ?_
    · simp only [List.length_map]; omega
    rw [hmod]
    repeat k_subL
    rotate_left
    · simp only [List.length_map]; omega
    have hσ : Ext σ ((((τ.setL "k" (.int i t)).setL "number" (.int num tn))) : Sg) := by k_offL
    refine ⟨fun hz => ?_, fun hz => ?_⟩
    · have hk0 : num.fmod 4 = 0 := by simpa using hz
      have hb : bstep B i num = addKid B u (.k (tokKind num) (toString (i : Int))) := by unfold bstep; rw [if_pos hk0, hu]
      rw [hb]
      repeat k_subL
      refine w_item h5 hau (by simp only [List.length_map]; omega) ?_
      repeat k_subL
      refine w_children G (hnu.ext (by k_offL)) ?_
      refine ⟨rs[u].l, rs[u].ks.map .ref, rfl, hnu.2, ?_⟩
      refine w_call0 (f := 45) G (by kernel_rfl) ?_
      repeat k_subL
      refine w_newTuple (by rw [sizeLine_eq]; simp) fun tt htt => ?_
      repeat k_subL
      refine w_divI (by decide) (PyProof.noPylong_small (by decide)) fun t7 => ?_
      repeat k_subL
      refine w_modI (by decide) fun t8 => ?_
      obtain ⟨q, hq, hq2⟩ : ∃ q : Nat, (num.fdiv 48).fmod 2 = q ∧ q < 2 := by
        have h9 := Int.fmod_lt_of_pos (num.fdiv 48) (b := 2) (by decide)
        have h10 := Int.fmod_nonneg_of_pos (num.fdiv 48) (b := 2) (by decide)
        exact ⟨((num.fdiv 48).fmod 2).toNat, by omega, by omega⟩
      rw [hq]
      refine w_itemT (v := .str (tokKind num) (if q = 0 then _ else _)) putA_same (tupXY hq hq2) (by simp) ?_
      repeat k_subL
      refine w_strI (by show Nat.log2 ((i : Int).natAbs) < 1920; have := Nat.log2_le_self ((i : Int).natAbs); omega) fun t10 => ?_
      have hE2 : Ext σ ((((τ.setL "k" (.int i t)).setL "number" (.int num tn)).setL "kind" (.int (num.fmod 4) t4)).setL "under" (.int u t6)) := by k_offL
      have htt' : ((((τ.setL "k" (.int i t)).setL "number" (.int num tn)).setL "kind" (.int (num.fmod 4) t4)).setL "under" (.int u t6)).at_ tt = none := htt
      repeat k_subL
      refine WC.call ?_
      refine WC.mono (c_Token G R.deeper.room) ?_
      rintro v σ2 ⟨x2, d2, rfl, hx2, hd2, I2, hE3⟩
      have hEτ : Ext τ σ2 := by k_offL
      have hEσ2 : Ext σ σ2 := hE.trans hEτ
      have hx2' : σ.at_ x2 = none := Ext.back (hE2.put htt') hx2
      have hB2 : Bld σ σ2 B rs (⟨x2, d2, tokKind num, toString (i : Int)⟩ :: tk) := h6.addTok hEτ ⟨_, _, I2⟩ hx2'
      have hks := h9 rs[u] (List.getElem_mem _)
      refine ⟨rs[u].ks.map .ref, hEτ.at_ _ _ hnu.2, ?_, ?_⟩
      · rw [sizeLine_eq]; simp only [List.length_map]; omega
      repeat k_subL
      have hB3 := hB2.addKid (u := u) (k := .k (tokKind num) (toString (i : Int))) (c := x2) hru ⟨d2, .head _⟩
      rw [List.map_append] at hB3
      refine ⟨hEσ2.putN (h6.new _ (List.getElem_mem _)).2.2, lt, _, _, ?_, ?_, h3, ?_, ?_, hB3, ?_, ?_, ?_⟩
      · k_clsL
      · k_clsL
      · exact keepL hru h4
      · refine putA_ne (Ne.symm (h4 _ (List.getElem_mem _))) ?_
        rw [keepA hru]; exact hEτ.at_ _ _ h5
      · rw [List.length_set]; omega
      · intro e; have := congrArg List.length e; rw [List.length_set, List.length_nil] at this; omega
      · exact keepK hru h9
    · have hk0 : ¬ num.fmod 4 = 0 := by simpa using hz
      refine w_consElse (W.mono (Q := fun t' σ' => t' = decide (num.fmod 4 = 3 ∧ u + 1 < B.length) ∧ σ' = ((((τ.setL "k" (.int i t)).setL "number" (.int num tn)).setL "kind" (.int (num.fmod 4) t4)).setL "under" (.int u t6))) ?_ fun t' σ' ⟨ht, hs⟩ => ⟨fun h1' => ?_, fun h1' => ?_⟩)
      · repeat k_subL
        refine ⟨fun h3' => ?_, fun h3' => ?_⟩
        · have e3 : num.fmod 4 = 3 := by simpa using h3'
          repeat k_subL
          · refine ⟨fun h5' => ?_, fun h5' => ?_⟩
            · repeat k_subL
              refine ⟨?_, rfl⟩
              rw [List.length_map, List.length_map, hBl] at h5'
              have : u + 1 < B.length := by simp only [decide_eq_true_eq] at h5'; omega
              simp [e3, this]
            · refine ⟨?_, rfl⟩
              rw [List.length_map, List.length_map, hBl] at h5'
              have : ¬ u + 1 < B.length := by simp only [decide_eq_false_iff_not] at h5'; omega
              simp [e3, this]
          · simp only [List.length_map]; omega
        · have e3 : ¬ num.fmod 4 = 3 := by simpa using h3'
          exact ⟨by simp [e3], rfl⟩
      · subst hs
        rw [h1'] at ht
        have hc := of_decide_eq_true ht.symm
        have hb : bstep B i num = addKid B u (.t (B.length - 1)) := by unfold bstep; rw [if_neg hk0, hu, if_pos hc]
        rw [hb]
        have hlast : ((rs.map (·.a)).map Value.ref)[rs.length - 1]? = some (.ref (rs[rs.length - 1]'(by omega)).a) := by
          rw [List.getElem?_map, List.getElem?_map, List.getElem?_eq_getElem (by omega)]; rfl
        repeat k_subL
        refine w_item h5 hau (by simp only [List.length_map]; omega) ?_
        repeat k_subL
        refine w_children G (hnu.ext (by k_offL)) ?_
        refine ⟨rs[u].l, rs[u].ks.map .ref, rfl, hnu.2, ?_⟩
        repeat k_subL
        rotate_left
        · simp only [List.length_map]; omega
        rw [List.length_map, List.length_map, show (rs.length : Int) - 1 = ((rs.length - 1 : Nat) : Int) by omega]
        refine w_item h5 hlast (by simp only [List.length_map]; omega) ?_
        have hks := h9 rs[u] (List.getElem_mem _)
        refine ⟨rs[u].ks.map .ref, hnu.2, ?_, ?_⟩
        · rw [sizeLine_eq]; simp only [List.length_map]; omega
        repeat k_subL
        have hB3 := h6.addKid (u := u) (k := .t (B.length - 1)) (c := (rs[rs.length - 1]'(by omega)).a) hru (by
          show (rs.map (·.a))[B.length - 1]? = _
          rw [← hBl, List.getElem?_map, List.getElem?_eq_getElem (by omega)]; rfl)
        rw [List.map_append] at hB3
        refine ⟨(show Ext σ _ by k_offL).putN (h6.new _ (List.getElem_mem _)).2.2, lt, _, _, ?_, ?_, h3, ?_, ?_, hB3.ext ⟨fun _ _ h => h, [], by simp [Sg.put, Sg.setL], fun _ h => by cases h⟩, ?_, ?_, ?_⟩
        · k_clsL
        · k_clsL
        · exact keepL hru h4
        · refine putA_ne (Ne.symm (h4 _ (List.getElem_mem _))) ?_
          rw [keepA hru]; exact h5
        · rw [List.length_set]; omega
        · intro e; have := congrArg List.length e; rw [List.length_set, List.length_nil] at this; omega
        · exact keepK hru h9
      · subst hs
        rw [h1'] at ht
        have hc := of_decide_eq_false ht.symm
        have hb : bstep B i num = addKid (B ++ [(kindName (num.fmod 4), [])]) u (.t B.length) := by unfold bstep; rw [if_neg hk0, hu, if_neg hc]
        rw [hb]
        repeat k_subL
        refine ⟨lt, _, rfl, h5, ?_⟩
        refine w_call0 (f := 142) G (by kernel_rfl) ?_
        repeat k_subL
        refine w_newTuple (by rw [sizeLine_eq]; simp) fun tt htt => ?_
        repeat k_subL
        refine w_modI (by decide) fun t8 => ?_
        have f4 := Int.fmod_lt_of_pos num (b := 4) (by decide)
        have f5 := Int.fmod_nonneg_of_pos num (b := 4) (by decide)
        obtain ⟨q, hq, hq2⟩ : ∃ q : Nat, (num.fmod 4).fmod 3 = q ∧ q < 3 := by
          have f6 := Int.fmod_lt_of_pos (num.fmod 4) (b := 3) (by decide)
          have f7 := Int.fmod_nonneg_of_pos (num.fmod 4) (b := 3) (by decide)
          exact ⟨((num.fmod 4).fmod 3).toNat, by omega, by omega⟩
        rw [hq]
        refine w_itemT (v := .str (kindName (num.fmod 4)) (if q = 0 then _ else if q = 1 then _ else _)) putA_same (tupABC f5 f4 hk0 hq hq2) (by simp) ?_
        repeat k_subL
        refine w_newList (by rw [sizeLine_eq]; simp) fun l2 hl2 => ?_
        repeat k_subL
        have hE2 : Ext σ ((((τ.setL "k" (.int i t)).setL "number" (.int num tn)).setL "kind" (.int (num.fmod 4) t4)).setL "under" (.int u t6)) := by k_offL
        have hE2τ : Ext τ ((((τ.setL "k" (.int i t)).setL "number" (.int num tn)).setL "kind" (.int (num.fmod 4) t4)).setL "under" (.int u t6)) := by k_offL
        have htt' : ((((τ.setL "k" (.int i t)).setL "number" (.int num tn)).setL "kind" (.int (num.fmod 4) t4)).setL "under" (.int u t6)).at_ tt = none := htt
        refine WC.call ?_
        refine WC.mono (c_Tree G R.deeper.room) ?_
        rintro v σ2 ⟨x2, d2, rfl, hx2, hd2, I2, hE3⟩
        have hEτ : Ext τ σ2 := by k_offL
        have hEσ2 : Ext σ σ2 := hE.trans hEτ
        have hx2' : τ.at_ x2 = none := Ext.back ((hE2τ.put htt').put hl2) hx2
        have hd2' : τ.at_ d2 = none := Ext.back ((hE2τ.put htt').put hl2) hd2
        have hl2' : τ.at_ l2 = none := Ext.back (hE2τ.put htt') hl2
        have hl2s : σ2.at_ l2 = some (.lst []) := hE3.1.at_ _ _ putA_same
        have hlt2 := hEτ.at_ _ _ h5
        have hne2 : l2 ≠ lt := fun e => by rw [e, h5] at hl2'; cases hl2'
        have hB2 : Bld σ σ2 (B ++ [(kindName (num.fmod 4), [])]) (rs ++ [⟨x2, d2, l2, kindName (num.fmod 4), []⟩]) tk := h6.addTree (r := ⟨x2, d2, l2, kindName (num.fmod 4), []⟩) hEτ ⟨⟨_, I2⟩, hl2s⟩ rfl ⟨Ext.back hE hx2', Ext.back hE hd2', Ext.back hE hl2'⟩ ⟨hx2', hd2', hl2'⟩
        have hnl : ∀ r ∈ rs ++ [⟨x2, d2, l2, kindName (num.fmod 4), []⟩], r.l ≠ lt := fun r hr => by
          rcases List.mem_append.mp hr with hr | hr
          · exact h4 r hr
          · simp at hr; subst hr; exact hne2
        have hB3 := hB2.putL (ys := (((rs ++ [(⟨x2, d2, l2, kindName (num.fmod 4), []⟩ : Rec)]).map (·.a)).map .ref)) hlt2 hnl
        refine ⟨(rs.map (·.a)).map .ref, hlt2, ?_, ?_⟩
        · rw [sizeLine_eq]; simp only [List.length_map]; omega
        have e3 : (rs.map (·.a)).map Value.ref ++ [Value.ref x2] = ((rs ++ [(⟨x2, d2, l2, kindName (num.fmod 4), []⟩ : Rec)]).map (·.a)).map .ref := by simp
        rw [e3]
        have hru' : (rs ++ [(⟨x2, d2, l2, kindName (num.fmod 4), []⟩ : Rec)])[u]? = some rs[u] := by rw [List.getElem?_append_left hul]; exact hru
        have hau' : (((rs ++ [(⟨x2, d2, l2, kindName (num.fmod 4), []⟩ : Rec)]).map (·.a)).map Value.ref)[u]? = some (.ref rs[u].a) := by rw [List.getElem?_map, List.getElem?_map, hru']; rfl
        have hnu' := hB3.at_ rs[u] (List.mem_append_left _ (List.getElem_mem _))
        have hlen2 : (rs ++ [(⟨x2, d2, l2, kindName (num.fmod 4), []⟩ : Rec)]).length = rs.length + 1 := by simp
        repeat k_subL
        refine w_item putA_same hau' (by simp only [List.length_map]; omega) ?_
        repeat k_subL
        refine w_children G hnu' ?_
        refine ⟨rs[u].l, rs[u].ks.map .ref, rfl, hnu'.2, ?_⟩
        repeat k_subL
        refine w_itemNeg (xs := (rs.map (·.a)).map .ref) (v := .ref x2) (by rw [e3]; exact putA_same) (by simp only [List.length_map]; omega) ?_
        have hks := h9 rs[u] (List.getElem_mem _)
        refine ⟨rs[u].ks.map .ref, hnu'.2, ?_, ?_⟩
        · rw [sizeLine_eq]; simp only [List.length_map]; omega
        repeat k_subL
        have hB4 := hB3.addKid (u := u) (k := .t B.length) (c := x2) hru' (by
          show ((rs ++ [(⟨x2, d2, l2, kindName (num.fmod 4), []⟩ : Rec)]).map (·.a))[B.length]? = _
          rw [← hBl, List.map_append, List.getElem?_append_right (by simp)]; simp)
        rw [show (rs[u].ks ++ [x2]).map Value.ref = rs[u].ks.map .ref ++ [.ref x2] by simp] at hB4
        refine ⟨Ext.putN (Ext.putN hEσ2 h3) (h6.new _ (List.getElem_mem _)).2.2, lt, _, _, ?_, ?_, h3, ?_, ?_, hB4, ?_, ?_, ?_⟩
        · k_clsL
        · k_clsL
        · exact keepL hru' hnl
        · refine putA_ne (Ne.symm (h4 _ (List.getElem_mem _))) ?_
          rw [keepA hru']; exact putA_same
        · rw [List.length_set]; omega
        · intro e; have := congrArg List.length e; rw [List.length_set, List.length_nil] at this; omega
        · exact keepK hru' fun r hr => by
            rcases List.mem_append.mp hr with hr | hr
            · exact h9 r hr
            · simp at hr; subst hr; simp
  · repeat k_subL
    exact ⟨lt, rs, tk, rfl, h3, h4, h5, h6.ext (Ext.rfl.setM), hE.setM, rfl⟩
end PartC2

section PartC3
open PySem PySem.W PyProof.Rows PySem.Calls
set_option maxRecDepth 100000
set_option maxHeartbeats 1000000
set_option linter.unusedVariables false

/-- the children that are trees -/
def kidsT (g : Gf) (x : Addr) : List Addr := match g x with
  | some (.node d l nm ks) => ks.filter (isTree g)
  | _ => []
def bfs (g : Gf) : Nat → List Addr → List Addr → List Addr
  | 0, _, S => S
  | _ + 1, [], S => S
  | f + 1, x :: q, S =>
    let S' := if x ∈ S then S else S ++ [x]
    bfs g f (q ++ (kidsT g x).reverse.filter (fun c => decide (c ∉ S'))) S'
def szT (g : Gf) (N : Nat) (q : List Addr) : Nat := (q.flatMap (gdown g N)).length

/-- a graph in order: all below ends, the children stand -/
structure Fing (g : Gf) (N : Nat) : Prop where
  dp : ∀ a nd, g a = some nd → Dp g N a
  kid : ∀ a d l nm ks, g a = some (.node d l nm ks) → ∀ c ∈ ks, ∃ nd, g c = some nd
  down : ∀ a d l nm ks, g a = some (.node d l nm ks) → gdown g N a = a :: ks.flatMap (gdown g N)
  len : ∀ a d l nm ks, g a = some (.node d l nm ks) → ks.length ≤ 2 ^ 20

theorem szT_kids {g : Gf} {N : Nat} (Fg : Fing g N) {x : Addr} {p : Addr → Bool} (hx : isTree g x = true) : szT g N ((kidsT g x).reverse.filter p) + 1 ≤ (gdown g N x).length := by
  unfold isTree at hx
  split at hx
  · rename_i d l nm ks e
    rw [Fg.down _ _ _ _ _ e, List.length_cons]
    unfold kidsT szT; rw [e]
    simp only
    have h1 : ∀ (q : List Addr) (p : Addr → Bool), ((q.filter p).flatMap (gdown g N)).length ≤ (q.flatMap (gdown g N)).length := fun q p => by
      induction q with
      | nil => simp
      | cons y q ih =>
        rw [List.filter_cons]
        split
        · simp only [List.flatMap_cons, List.length_append]; omega
        · simp only [List.flatMap_cons, List.length_append]; omega
    have h2 : ∀ q : List Addr, (q.reverse.flatMap (gdown g N)).length = (q.flatMap (gdown g N)).length := fun q => by
      induction q with
      | nil => rfl
      | cons y q ih => simp only [List.reverse_cons, List.flatMap_append, List.flatMap_cons, List.flatMap_nil, List.append_nil, List.length_append, ih]; omega
    have h3 := h1 (ks.filter (isTree g)).reverse p
    rw [h2] at h3
    have h4 := h1 ks (isTree g)
    omega
  · cases hx
theorem szT_ge {g : Gf} {N : Nat} (Fg : Fing g N) : ∀ q : List Addr, (∀ x ∈ q, isTree g x = true) → q.length ≤ szT g N q := by
  intro q
  induction q with
  | nil => intro _; exact Nat.zero_le _
  | cons y q ih =>
    intro h
    have h1 := szT_kids (p := fun _ => false) Fg (h y (.head _))
    have h2 := ih fun x hx => h x (.tail _ hx)
    unfold szT at *
    simp only [List.flatMap_cons, List.length_append, List.length_cons]; omega

section
variable {b : Base} {A : Around} {F : Fs} {L : Addr} {σ : Sg} {env : Env}
/-- if, with what holds behind it -/
theorem w_consIfP {test body pos rest} {Q : Flow → Sg → Prop} (P : Sg → Prop) (h : W b A F L (isTrue test env (eval test env)) σ fun t σ' => (t = true → W b A F L (execs body env) σ' (thenK P Q)) ∧ (t = false → P σ'))
    (hr : ∀ τ, P τ → W b A F L (execs rest env) τ Q) : W b A F L (execs (.If test body [] pos :: rest) env) σ Q :=
  w_consIf (W.mono h fun t σ' q => ⟨fun e => W.mono (q.1 e) fun fl σ'' q => by cases fl <;> first | exact hr _ q | exact q, fun e => hr _ (q.2 e)⟩)
end
local macro_rules | `(tactic| k_clsL) => `(tactic| first
  | with_reducible assumption
  | (with_reducible show Sg.m (Sg.setL _ _ _) _ = some _; first | with_reducible exact getL_same | (apply getL_skip; with_unfolding_all decide; k_clsL))
  | (with_reducible show Sg.m (Sg.put _ _ _) _ = some _; apply putM; k_clsL)
  | (with_reducible show Sg.m (Sg.del _ _) _ = some _; apply delM; k_clsL)
  | (with_reducible show Sg.m (Sg.setM _ _) _ = some _; apply setMM; k_clsL)
  | (apply viaM; with_reducible assumption; k_clsL)
  | (apply viaE; with_reducible assumption; k_clsL))
local macro_rules | `(tactic| k_offL) => `(tactic| first
  | with_reducible assumption
  | with_reducible exact Ext.rfl
  | (with_reducible show Ext _ (Sg.setL _ _ _); refine Ext.setL ?_; k_offL)
  | (with_reducible show Ext _ (Sg.put _ _ _); refine Ext.put ?_ (by first | with_reducible assumption | with_reducible exact setA (by with_reducible assumption)); k_offL)
  | (with_reducible show Ext _ (Sg.setM _ _); refine Ext.setM ?_; k_offL)
  | (with_reducible refine Ext.tr (by with_reducible assumption) ?_; k_offL)
  | (with_reducible refine Ext.tr2 (by with_reducible assumption) ?_; k_offL))
local macro_rules | `(tactic| k_places) => `(tactic| first
  | with_reducible assumption
  | with_reducible exact putA_same
  | (with_reducible show Sg.at_ (Sg.setL _ _ _) _ = some _; apply setA; k_places)
  | (with_reducible show Sg.at_ (Sg.setM _ _) _ = some _; apply setMA; k_places)
  | (with_reducible show Sg.at_ (Sg.put _ _ _) _ = some _; apply putA_new; with_reducible assumption; k_places)
  | (apply ESt.at_; with_reducible assumption; k_places)
  | (apply Ext.at'; with_reducible assumption; k_places))
local macro_rules | `(tactic| k_subL) => `(tactic| first
  | (with_reducible show W _ _ _ _ (spliced (backTo _ (starEach [] _))) _ _; refine w_items0 ?_)
  | (with_reducible show W _ _ _ _ (spliced (backTo _ (starEach (_ :: _) _))) _ _; refine w_items ?_)
  | (with_reducible show W _ _ _ _ (eval (Expr.Name _ _) _) _ _; first | refine w_local (by with_unfolding_all rfl) (by k_clsL) ?_ | refine w_cell (by with_unfolding_all rfl) (by k_places) ?_ | (with_reducible show W _ _ _ _ (eval (Expr.Name ("Tree" : Str) _) _) _ _; refine w_glob (v := .ref 142) (by assumption) (by kernel_rfl) ?_) | (with_reducible show W _ _ _ _ (eval (Expr.Name ("Token" : Str) _) _) _ _; refine w_glob (v := .ref 45) (by assumption) (by kernel_rfl) ?_))
  | (with_reducible show W _ _ _ _ (eval (Expr.Call (Expr.Name ("isinstance" : Str) _) _ [] _) _) _ _; refine w_callB (n := "isinstance") (by assumption) boot_isi (by kernel_rfl) ?_)
  | (with_reducible show W _ _ _ _ (eval (Expr.Call (Expr.Name ("len" : Str) _) _ [] _) _) _ _; refine w_callB (n := "len") (by assumption) boot_len (by kernel_rfl) ?_)
  | (with_reducible show W _ _ _ _ (eval (Expr.Call (Expr.Name ("min" : Str) _) _ [] _) _) _ _; refine w_callB (n := "min") (by assumption) boot_min (by kernel_rfl) ?_)
  | (with_reducible show W _ _ _ _ (eval (Expr.Call (Expr.Name ("range" : Str) _) _ [] _) _) _ _; refine w_callT (n := "range") (by assumption) boot_range (by kernel_rfl) ?_)
  | (with_reducible show W _ _ _ _ (eval (Expr.Call (Expr.Name ("str" : Str) _) _ [] _) _) _ _; refine w_callT (n := "str") (by assumption) boot_str (by kernel_rfl) ?_)
  | (with_reducible show W _ _ _ _ (eval (Expr.Call (Expr.Name ("list" : Str) _) _ [] _) _) _ _; refine w_callT (n := "list") (by assumption) boot_list (by kernel_rfl) ?_)
  | (with_reducible show W _ _ _ _ (eval (Expr.Call (Expr.Name ("reversed" : Str) _) _ [] _) _) _ _; refine w_callT (n := "reversed") (by assumption) boot_rev (by kernel_rfl) ?_)
  | (with_reducible show W _ _ _ _ (eval (Expr.Call (Expr.Name ("filter" : Str) _) _ [] _) _) _ _; refine w_callT (n := "filter") (by assumption) boot_filter (by kernel_rfl) ?_)
  | (with_reducible show W _ _ _ _ (call (.builtin "len") [.ref _]) _ _; (refine w_len (by k_places) ?_ fun _ => ?_); rotate_left)
  | (with_reducible show W _ _ _ _ (binaryOp .Add (.int _ _) (.int _ _)) _ _; refine w_addI fun _ => ?_)
  | (with_reducible show W _ _ _ _ (binaryOp .Sub (.int _ _) (.int _ _)) _ _; refine w_subI fun _ => ?_)
  | (with_reducible show W _ _ _ _ (compareOp .Eq (.int _ _) (.int _ _)) _ _; refine w_eqI ?_)
  | (with_reducible show W _ _ _ _ (compareOp .NotEq (.int _ _) (.int _ _)) _ _; refine w_neI ?_)
  | (with_reducible show W _ _ _ _ (compareOp .Lt (.int _ _) (.int _ _)) _ _; refine w_ltI ?_)
  | (with_reducible show W _ _ _ _ (compareOp .Eq (.str _ _) (.str _ _)) _ _; refine w_eqS ?_)
  | (with_reducible show W _ _ _ _ (compareOp .NotEq (.bool _) (.bool _)) _ _; refine w_neB ?_)
  | (with_reducible show W _ _ _ _ (unaryOp .USub (.int _ _)) _ _; refine w_negI fun _ => ?_)
  | (with_reducible show W _ _ _ _ (unaryOp .Not _) _ _; refine w_notv ?_)
  | (with_reducible show W _ _ _ _ (eval (Expr.Attribute _ _ _) _) _ _; refine w_attr ?_)
  | (with_reducible show W _ _ _ _ (eval (Expr.List _ _) _) _ _; refine w_list ?_)
  | (with_reducible show W _ _ _ _ (eval (Expr.Tuple _ _ _) _) _ _; refine w_tuple ?_)
  | (with_reducible show W _ _ _ _ (eval (Expr.BinOp _ _ _ _) _) _ _; refine w_binop ?_)
  | (with_reducible show W _ _ _ _ (eval (Expr.Compare _ [_] [_] _) _) _ _; refine w_cmp ?_)
  | (with_reducible show W _ _ _ _ (eval (Expr.IfExp _ _ _ _) _) _ _; refine w_ifexp ?_)
  | (with_reducible show W _ _ _ _ (eval (Expr.Subscript _ _ _) _) _ _; refine w_sub ?_)
  | (with_reducible show W _ _ _ _ (eval (Expr.UnaryOp _ _ _) _) _ _; refine w_unop ?_)
  | (with_reducible show W _ _ _ _ (eval (Expr.Constant .none _ _) _) _ _; refine w_none ?_)
  | (with_reducible show W _ _ _ _ (eval (Expr.Constant (.bool _) _ _) _) _ _; refine w_tf ?_)
  | (with_reducible show W _ _ _ _ (eval (Expr.Constant (.int _) _ _) _) _ _; refine w_int ?_; intro _)
  | (with_reducible show W _ _ _ _ (eval (Expr.Constant (.str _) _ _) _) _ _; refine w_str ?_; intro _)
  | (with_reducible show W _ _ _ _ (execs [] _) _ _; refine w_nil ?_)
  | (with_reducible show W _ _ _ _ (execs (Stmt.Assign [Expr.Name _ _] (Expr.ListComp _ [Comprehension.mk _ _ _ _] _ _) _ :: _) _) _ _; refine w_cons (w_assignComp ?_))
  | (with_reducible show W _ _ _ _ (execs (Stmt.Assign [Expr.Name _ _] _ _ :: _) _) _ _; refine w_consA ?_)
  | (with_reducible show W _ _ _ _ (execs (Stmt.Assign [Expr.Attribute _ _ _] _ _ :: _) _) _ _; refine w_consAttr ?_)
  | (with_reducible show W _ _ _ _ (execs (Stmt.Assign [Expr.Subscript _ _ _] _ _ :: _) _) _ _; refine w_consSub ?_)
  | (with_reducible show W _ _ _ _ (execs (Stmt.If _ _ [] _ :: _) _) _ _; refine w_consIf ?_)
  | (with_reducible show W _ _ _ _ (execs (Stmt.If _ _ _ _ :: _) _) _ _; refine w_consElse ?_)
  | (with_reducible show W _ _ _ _ (execs (Stmt.Return (some _) _ :: _) _) _ _; refine w_consRet ?_)
  | (with_reducible show W _ _ _ _ (execs (Stmt.Break _ :: _) _) _ _; refine w_consBrk ?_)
  | (with_reducible show W _ _ _ _ (execs (Stmt.Continue _ :: _) _) _ _; refine w_consCont ?_)
  | (with_reducible show W _ _ _ _ (execs (Stmt.Expr (Expr.Call (Expr.Attribute _ _ _) [_] [] _) _ :: _) _) _ _; refine w_consApp ?_)
  | (with_reducible show W _ _ _ _ (execs (Stmt.Expr _ _ :: _) _) _ _; refine w_consE ?_)
  | (with_reducible show W _ _ _ _ (isTrue (Expr.UnaryOp .Not _ _) _ _) _ _; refine w_not ?_)
  | (with_reducible show W _ _ _ _ (isTrue (Expr.BoolOp _ _ _) _ _) _ _; refine w_bool ?_)
  | (with_reducible show W _ _ _ _ (allTrue .And [] _) _ _; refine w_andNil ?_)
  | (with_reducible show W _ _ _ _ (allTrue .Or [] _) _ _; refine w_orNil ?_)
  | (with_reducible show W _ _ _ _ (allTrue .And (_ :: _) _) _ _; refine w_and ?_)
  | (with_reducible show W _ _ _ _ (allTrue .Or (_ :: _) _) _ _; refine w_or ?_)
  | (with_reducible show W _ _ _ _ (isTrue (Expr.Compare _ [_] [_] _) _ _) _ _; refine w_tcmp ?_)
  | (with_reducible show W _ _ _ _ (isTrue _ _ _) _ _; refine w_tval ?_)
  | (with_reducible show W _ _ _ _ (storeName _ _ _) _ _; first | refine w_storeL (by with_unfolding_all rfl) ?_ | refine w_storeC (by with_unfolding_all rfl) (by k_places) ?_)
  | (with_reducible show W _ _ _ _ (tests [_] _) _ _; refine w_tests1 ?_)
  | (with_reducible show W _ _ _ _ (tests [] _) _ _; refine w_tests0 ?_)
  | (with_reducible show W _ _ _ _ (eval (Expr.ListComp _ [Comprehension.mk _ _ _ _] _ _) _) _ _; refine w_listcomp ?_)
  | (with_reducible show W _ _ _ _ (truthy (.bool _)) _ _; refine w_truthyB ?_)
  | (with_reducible show thenK _ _ Flow.next _; refine thenK_next ?_)
  | (with_reducible show thenK _ _ Flow.brk _; refine thenK_brk ?_)
  | (with_reducible show thenK _ _ Flow.cont _; refine thenK_cont ?_)
  | (with_reducible show thenK _ _ (Flow.ret _) _; refine thenK_ret ?_)
  | (with_reducible show turnK _ _ _ Flow.next _; refine turnK_next ?_)
  | (with_reducible show turnK _ _ _ Flow.brk _; refine turnK_brk ?_)
  | (with_reducible show turnK _ _ _ Flow.cont _; refine turnK_cont ?_)
  | (with_reducible show turnK _ _ _ (Flow.ret _) _; refine turnK_ret ?_))

theorem c_iter {b : Base} (G : Glb b) {g : Gf} {N : Nat} (Fg : Fing g N) {A : Around} {F : Fs} {L : Addr} {σ : Sg} {n : Nat} {a : Addr} (R : Rm A (n + 1)) (hG : Gr σ g) (hT : isTree g a = true) (hz : (gdown g N a).length ≤ 2 ^ 18) :
    WC b A F L (.call (.ref 83) ⟨[.ref a], []⟩) σ fun v σ' => ∃ r, v = .ref r ∧ σ.at_ r = none ∧ σ'.at_ r = some (.lst ((bfs g ((gdown g N a).length + 1) [a] []).reverse.map .ref)) ∧ ESt σ σ' := by
  refine wc_fn1 (fd := fIter.1) (binds := [("self", Value.ref a)]) G (fIter.2 _) (by kernel_rfl) rfl R.dep rfl fun L' => ?_
  intro c1 hc1 c2 hc2
  show W _ _ _ _ _ _ _
  have hc1' : σ.at_ c1 = none := hc1
  have hc2' : σ.at_ c2 = none := Ext.back (show Ext σ ((σ.setM fun x => none).put c1 (Cl.cel none)) by k_offL) hc2
  have hne12 : c2 ≠ c1 := fun e => by rw [e, putA_same] at hc2; cases hc2
  have hE0 : Ext σ ((((σ.setM fun x => none).put c1 (Cl.cel none)).put c2 (Cl.cel none)).setL (Str.ofString "self") (Value.ref a)) := by k_offL
  have hk1 : ((((σ.setM fun x => none).put c1 (Cl.cel none)).put c2 (Cl.cel none)).setL (Str.ofString "self") (Value.ref a)).at_ c1 = some (.cel none) := setA (putA_new hc2 putA_same)
  have hk2 : ((((σ.setM fun x => none).put c1 (Cl.cel none)).put c2 (Cl.cel none)).setL (Str.ofString "self") (Value.ref a)).at_ c2 = some (.cel none) := setA putA_same
  have hm0 : ((((σ.setM fun x => none).put c1 (Cl.cel none)).put c2 (Cl.cel none)).setL (Str.ofString "self") (Value.ref a)).m "self" = some (.ref a) := getL_same
  generalize ((((σ.setM fun x => none).put c1 (Cl.cel none)).put c2 (Cl.cel none)).setL (Str.ofString "self") (Value.ref a)) = τ0 at hE0 hk1 hk2 hm0
  show W b _ _ _ _ τ0 _
  repeat k_subL
  refine w_newList (by rw [sizeLine_eq]; simp) fun lq hlq => ?_
  repeat k_subL
  refine w_newList (by rw [sizeLine_eq]; simp) fun ls hls => ?_
  have hlq' : σ.at_ lq = none := Ext.back hE0 hlq
  have hls' : σ.at_ ls = none := Ext.back (show Ext σ (τ0.put lq (.lst [.ref a])) from hE0.put hlq) hls
  have hneqs : ls ≠ lq := fun e => by
    have h : ((τ0.put lq (.lst [.ref a])).setL "queue" (.ref lq)).at_ ls = none := hls
    rw [e] at h; have h2 : ((τ0.put lq (.lst [.ref a])).setL "queue" (.ref lq)).at_ lq = some (.lst [.ref a]) := setA putA_same
    rw [h2] at h; cases h
  refine w_storeC (c := c1) (u := none) (by with_unfolding_all rfl) ?_ ?_
  · exact putA_new hls (setA (putA_new hlq hk1))
  have hnc1q : c1 ≠ lq := fun e => by rw [e, hlq] at hk1; cases hk1
  have hnc2q : c2 ≠ lq := fun e => by rw [e, hlq] at hk2; cases hk2
  have hnc1s : c1 ≠ ls := fun e => by
    have h : ((τ0.put lq (.lst [.ref a])).setL "queue" (.ref lq)).at_ c1 = some (.cel none) := setA (putA_new hlq hk1)
    rw [e] at h; have h2 : ((τ0.put lq (.lst [.ref a])).setL "queue" (.ref lq)).at_ ls = none := hls
    rw [h2] at h; cases h
  have hnc2s : c2 ≠ ls := fun e => by
    have h : ((τ0.put lq (.lst [.ref a])).setL "queue" (.ref lq)).at_ c2 = some (.cel none) := setA (putA_new hlq hk2)
    rw [e] at h; have h2 : ((τ0.put lq (.lst [.ref a])).setL "queue" (.ref lq)).at_ ls = none := hls
    rw [h2] at h; cases h
  generalize hΦ : (gdown g N a).length = Φ at hz
  refine w_forM R.deeper.hh Φ (fun i τ => Ext σ τ ∧ ∃ (Q S : List Addr), τ.at_ c1 = some (.cel (some (.ref ls))) ∧ τ.at_ ls = some (.lst (S.map .ref)) ∧ (∃ u, τ.at_ c2 = some (.cel u)) ∧ τ.m "queue" = some (.ref lq) ∧ τ.at_ lq = some (.lst (Q.map .ref)) ∧
    (∀ x ∈ Q, isTree g x = true) ∧ (∀ x ∈ S, isTree g x = true) ∧ i ≤ Q.length ∧ bfs g (Φ + 1) [a] [] = bfs g (Φ + 1 - i) (Q.drop i) S ∧ i + szT g N (Q.drop i) ≤ Φ ∧ S.length ≤ i) ?_
  repeat k_subL
  refine ⟨lq, rfl, ⟨?_, [a], [], ?_, ?_, ⟨none, ?_⟩, ?_, ?_, ?_, ?_, ?_, ?_, ?_, ?_⟩, fun i τ ⟨hE, Q, S, h1, h2, ⟨u, h3⟩, h4, h5, h6, h7, h8, h9, h10, h11⟩ => ⟨by omega, Q.map .ref, h5, fun v Fa hv => ?_, fun hv => ?_⟩⟩
  · exact Ext.putN (Ext.put (Ext.setL (Ext.put hE0 hlq)) hls) hc1'
  · exact putA_same
  · exact putA_ne (Ne.symm hnc1s) putA_same
  · exact putA_ne hne12 (putA_ne hnc2s (setA (putA_new hlq hk2)))
  · k_clsL
  · exact putA_ne (Ne.symm hnc1q) (putA_ne (Ne.symm hneqs) (setA putA_same))
  · intro x hx; simp at hx; subst hx; exact hT
  · intro x hx; cases hx
  · exact Nat.zero_le _
  · rfl
  · unfold szT; simp only [List.drop_zero, List.flatMap_cons, List.flatMap_nil, List.append_nil]; omega
  · exact Nat.le_refl _
  · obtain ⟨x, rfl, hx⟩ := kidAt hv
    have hiQ : i < Q.length := (List.getElem?_eq_some_iff.mp hx).1
    have hxQ : x ∈ Q := List.mem_of_getElem? hx
    have hTx := h6 x hxQ
    have hdrop : Q.drop i = x :: Q.drop (i + 1) := by rw [List.drop_eq_getElem_cons hiQ, (List.getElem?_eq_some_iff.mp hx).2]
    obtain ⟨dx, lx, nx, kx, hgx⟩ : ∃ d l nm ks, g x = some (.node d l nm ks) := by
      unfold isTree at hTx; split at hTx
      · exact ⟨_, _, _, _, ‹_›⟩
      · cases hTx
    have hgT : ∀ y, isTree g y = true → Th σ y := fun y hy => by
      unfold isTree at hy; split at hy
      · exact (hG y _ ‹_›).obj
      · cases hy
    have hSz : S.length ≤ 2 ^ 19 := by omega
    refine w_storeC (c := c2) (u := u) (by with_unfolding_all rfl) h3 ?_
    have hEa : Ext σ (τ.put c2 (.cel (some (.ref x)))) := hE.putN hc2'
    have k1 : (τ.put c2 (.cel (some (.ref x)))).at_ c1 = some (.cel (some (.ref ls))) := putA_ne (Ne.symm hne12) h1
    have k2 : (τ.put c2 (.cel (some (.ref x)))).at_ ls = some (.lst (S.map .ref)) := putA_ne (Ne.symm hnc2s) h2
    have k3 : (τ.put c2 (.cel (some (.ref x)))).at_ c2 = some (.cel (some (.ref x))) := putA_same
    have k4 : (τ.put c2 (.cel (some (.ref x)))).m "queue" = some (.ref lq) := h4
    have k5 : (τ.put c2 (.cel (some (.ref x)))).at_ lq = some (.lst (Q.map .ref)) := putA_ne (Ne.symm hnc2q) h5
    generalize τ.put c2 (.cel (some (.ref x))) = τa at hEa k1 k2 k3 k4 k5
    -- the queue grows
    have tail : ∀ (S' : List Addr) (τb : Sg), S' = (if x ∈ S then S else S ++ [x]) → Ext σ τb → τb.at_ c1 = some (.cel (some (.ref ls))) → τb.at_ ls = some (.lst (S'.map .ref)) → τb.at_ c2 = some (.cel (some (.ref x))) → τb.m "queue" = some (.ref lq) → τb.at_ lq = some (.lst (Q.map .ref)) →
      ∀ Q', Q' = Q ++ (kidsT g x).reverse.filter (fun c => decide (c ∉ S')) → ∀ τc, Ext σ τc → τc.at_ c1 = some (.cel (some (.ref ls))) → τc.at_ ls = some (.lst (S'.map .ref)) → (∃ u, τc.at_ c2 = some (.cel u)) → τc.m "queue" = some (.ref lq) → τc.at_ lq = some (.lst (Q'.map .ref)) →
      (Ext σ τc ∧ ∃ (Q S : List Addr), τc.at_ c1 = some (.cel (some (.ref ls))) ∧ τc.at_ ls = some (.lst (S.map .ref)) ∧ (∃ u, τc.at_ c2 = some (.cel u)) ∧ τc.m "queue" = some (.ref lq) ∧ τc.at_ lq = some (.lst (Q.map .ref)) ∧
    (∀ x ∈ Q, isTree g x = true) ∧ (∀ x ∈ S, isTree g x = true) ∧ i + 1 ≤ Q.length ∧ bfs g (Φ + 1) [a] [] = bfs g (Φ + 1 - (i + 1)) (Q.drop (i + 1)) S ∧ i + 1 + szT g N (Q.drop (i + 1)) ≤ Φ ∧ S.length ≤ i + 1) := by
      intro S' τb hS' _ _ _ _ _ _ Q' hQ' τc e0 e1 e2 e3 e4 e5
      have hd : Q'.drop (i + 1) = Q.drop (i + 1) ++ (kidsT g x).reverse.filter (fun c => decide (c ∉ S')) := by rw [hQ', List.drop_append_of_le_length (by omega)]
      refine ⟨e0, Q', S', e1, e2, e3, e4, e5, ?_, ?_, ?_, ?_, ?_, ?_⟩
      · intro y hy
        rw [hQ'] at hy
        rcases List.mem_append.mp hy with hy | hy
        · exact h6 y hy
        · have := (List.mem_filter.mp hy).1
          rw [List.mem_reverse] at this
          unfold kidsT at this; rw [hgx] at this
          exact (List.mem_filter.mp this).2
      · intro y hy
        rw [hS'] at hy
        split at hy
        · exact h7 y hy
        · rcases List.mem_append.mp hy with hy | hy
          · exact h7 y hy
          · simp at hy; subst hy; exact hTx
      · rw [hQ', List.length_append]; omega
      · rw [h9, hdrop, show Φ + 1 - i = (Φ + 1 - (i + 1)) + 1 by omega, hd, hS']; rfl
      · rw [hd]
        rw [hdrop] at h10
        have := szT_kids (p := fun c => decide (c ∉ S')) Fg hTx
        unfold szT at *
        rw [List.flatMap_cons, List.length_append] at h10
        rw [List.flatMap_append, List.length_append]
        omega
      · rw [hS']; split
        · omega
        · rw [List.length_append]; simp; omega
    have hS'z : ∀ S', S' = (if x ∈ S then S else S ++ [x]) → S'.length ≤ 2 ^ 19 + 1 ∧ ∀ y ∈ S', isTree g y = true := fun S' e => by
      rw [e]; split
      · exact ⟨by omega, h7⟩
      · refine ⟨by rw [List.length_append]; simp; omega, fun y hy => ?_⟩
        rcases List.mem_append.mp hy with hy | hy
        · exact h7 y hy
        · simp at hy; subst hy; exact hTx
    refine w_consIfP (fun τb => ∃ S', S' = (if x ∈ S then S else S ++ [x]) ∧ Ext σ τb ∧ τb.at_ c1 = some (.cel (some (.ref ls))) ∧ τb.at_ ls = some (.lst (S'.map .ref)) ∧ τb.at_ c2 = some (.cel (some (.ref x))) ∧ τb.m "queue" = some (.ref lq) ∧ τb.at_ lq = some (.lst (Q.map .ref)))
      (W.mono (Q := fun t σ' => t = decide (x ∉ S) ∧ ESt τa σ') ?_ fun t σ' ⟨ht, hEs⟩ => ?_) ?_
    · repeat k_subL
      refine w_compF (isV x) (cl := [("subtree", c2)]) R.deeper.hh (by with_unfolding_all rfl) (by rfl) (by decide) (by decide) (by decide) (by decide) ?_
      repeat k_subL
      refine ⟨ls, S.map .ref, rfl, k2, by rw [sizeLine_eq]; simp only [List.length_map]; omega, fun v hv τ2 C2 F2 hE2 hm2 => ?_, fun τ2 acc2 hE2 hacc2 hm2 => ?_⟩
      · obtain ⟨y, hym, rfl⟩ := List.mem_map.mp hv
        have hcv2 := hE2.at_ _ _ k3
        repeat k_subL
        obtain ⟨C3, d3, q3⟩ := hgT y (h7 y hym)
        obtain ⟨C4, d4, q4⟩ := hgT x hTx
        refine w_is ((hEa.trans hE2).at_ _ _ q3) ((hEa.trans hE2).at_ _ _ q4) ?_
        repeat k_subL
        exact ⟨rfl, Ext.rfl, hm2⟩
      · refine w_truthyL putA_same ?_ ?_
        · have := List.length_filter_le (isV x) (S.map Value.ref)
          rw [List.length_map] at this; omega
        · refine ⟨?_, ⟨hE2.put hacc2, hm2⟩⟩
          have e : ((S.map Value.ref).filter (isV x)).isEmpty = decide (x ∉ S) := by
            rw [filter_isV, Bool.eq_iff_iff]
            simp only [List.isEmpty_iff, List.map_eq_nil_iff, List.filter_eq_nil_iff, decide_eq_true_eq]
            exact ⟨fun h hx => h x hx rfl, fun h y hy e => h (e ▸ hy)⟩
          rw [e]; simp
    · have hEb : Ext σ σ' := hEa.trans hEs.1
      have k1' := hEs.1.at_ _ _ k1
      have k2' := hEs.1.at_ _ _ k2
      have k3' := hEs.1.at_ _ _ k3
      have k5' := hEs.1.at_ _ _ k5
      have k4' : σ'.m "queue" = some (.ref lq) := by rw [hEs.2]; exact k4
      refine ⟨fun h1' => ?_, fun h1' => ?_⟩
      · rw [h1'] at ht
        have hnS : x ∉ S := of_decide_eq_true ht.symm
        repeat k_subL
        refine ⟨ls, _, rfl, k2', ?_⟩
        repeat k_subL
        refine ⟨S.map .ref, k2', ?_, ?_⟩
        · rw [sizeLine_eq]; simp only [List.length_map]; omega
        repeat k_subL
        refine ⟨S ++ [x], by rw [if_neg hnS], ?_, ?_, ?_, ?_, ?_, ?_⟩
        · exact hEb.putN hls'
        · exact putA_ne hnc1s k1'
        · rw [List.map_append]; exact putA_same
        · exact putA_ne hnc2s k3'
        · exact k4'
        · exact putA_ne (Ne.symm hneqs) k5'
      · rw [h1'] at ht
        have hnS : x ∈ S := by simpa using ht
        exact ⟨S, by rw [if_pos hnS], hEb, k1', k2', k3', k4', k5'⟩
    · rintro τb ⟨S', hS', e0, e1, e2, e3, e4, e5⟩
      obtain ⟨hS1, hS2⟩ := hS'z S' hS'
      refine w_consAugL (by with_unfolding_all rfl) e4 ?_
      repeat k_subL
      refine w_compC (fun v => match v with | .ref c => isTree g c && decide (c ∉ S') | _ => false) (cl := [("subtrees", c1)]) (by with_unfolding_all rfl) (by rfl) (by decide) (fun τ k h => h) (fun C cs => by with_unfolding_all rfl) (by decide) ?_
      repeat k_subL
      refine w_children G ((hG x _ hgx).ext e0) ?_
      repeat k_subL
      have hlx := ((hG x _ hgx).ext e0).2
      refine w_reversed hlx fun rv hrv => ?_
      refine iter_rev putA_same ?_
      rw [Sg.del_put hrv]
      refine ⟨(kx.map Value.ref).reverse, _, _, ?_, Its.rev R.deeper.hh, ?_, fun τ' hE => hE.at_ _ _ hlx, ?_, fun v hv τ' C F' c hE hc hcv => ?_, fun τ' acc hE hacc hm => ?_⟩
      · simp
      · exact Self.rev
      · rw [sizeLine_eq]; simp only [List.length_reverse, List.length_map]; have := Fg.len _ _ _ _ _ hgx; omega
      · rw [List.mem_reverse] at hv
        obtain ⟨y, hym, rfl⟩ := List.mem_map.mp hv
        obtain ⟨nd, hnd⟩ := Fg.kid _ _ _ _ _ hgx y hym
        have hEy : Ext σ τ' := e0.trans hE
        have e1' := hE.at_ _ _ e1
        have e2' := hE.at_ _ _ e2
        repeat k_subL
        refine w_isTree (nd := nd) G ((hG y _ hnd).ext hEy) ?_
        have hTy := isTree_of hnd
        repeat k_subL
        refine ⟨fun hb => ?_, fun hb => ⟨?_, Ext.rfl⟩⟩
        · repeat k_subL
          refine w_compF (isV y) (cl := [("c", c)]) R.deeper.hh (by with_unfolding_all rfl) (by rfl) (by decide) (by decide) (by decide) (by decide) ?_
          repeat k_subL
          refine ⟨ls, S'.map .ref, rfl, e2', by rw [sizeLine_eq]; simp only [List.length_map]; omega, fun v hv τ2 C2 F2 hE2 hm2 => ?_, fun τ2 acc2 hE2 hacc2 hm2 => ?_⟩
          · obtain ⟨z, hzm, rfl⟩ := List.mem_map.mp hv
            have hcv2 := hE2.at_ _ _ hcv
            repeat k_subL
            obtain ⟨C3, d3, q3⟩ := hgT z (hS2 z hzm)
            obtain ⟨C4, d4, q4⟩ := hgT y (by rw [hTy]; exact hb)
            refine w_is ((hEy.trans hE2).at_ _ _ q3) ((hEy.trans hE2).at_ _ _ q4) ?_
            repeat k_subL
            exact ⟨rfl, Ext.rfl, hm2⟩
          · refine w_truthyL putA_same ?_ ?_
            · have := List.length_filter_le (isV y) (S'.map Value.ref)
              rw [List.length_map] at this; omega
            · have e : ((S'.map Value.ref).filter (isV y)).isEmpty = decide (y ∉ S') := by
                rw [filter_isV, Bool.eq_iff_iff]
                simp only [List.isEmpty_iff, List.map_eq_nil_iff, List.filter_eq_nil_iff, decide_eq_true_eq]
                exact ⟨fun h hx => h y hx rfl, fun h z hz e => h (e ▸ hz)⟩
              rw [e]
              refine ⟨fun hq => ?_, fun hq => ⟨?_, hE2.put hacc2⟩⟩
              · repeat k_subL
                refine ⟨?_, hE2.put hacc2⟩
                show true = (isTree g y && decide (y ∉ S'))
                rw [hTy, hb]; simpa using hq
              · show false = (isTree g y && decide (y ∉ S'))
                rw [hTy, hb]; simpa using hq
        · show false = (isTree g y && decide (y ∉ S'))
          rw [hTy, hb]; rfl
      · have hfil : ((kx.map Value.ref).reverse).filter (fun v => match v with | .ref c => isTree g c && decide (c ∉ S') | _ => false) = ((kidsT g x).reverse.filter (fun c => decide (c ∉ S'))).map .ref := by
          unfold kidsT; rw [hgx]
          rw [← List.map_reverse, List.filter_map, ← List.filter_reverse, List.filter_filter]
          congr 1
          apply List.filter_congr
          intro c _
          show (isTree g c && _) = _
          rw [Bool.and_comm]
        rw [hfil]
        have hkl : ((kidsT g x).reverse.filter (fun c => decide (c ∉ S'))).length ≤ 2 ^ 18 := by
          have h12 := szT_ge Fg ((kidsT g x).reverse.filter (fun c => decide (c ∉ S'))) (fun y hy => by
            have := (List.mem_filter.mp hy).1
            rw [List.mem_reverse] at this
            unfold kidsT at this; rw [hgx] at this
            exact (List.mem_filter.mp this).2)
          have h13 := szT_kids (p := fun c => decide (c ∉ S')) Fg hTx
          rw [hdrop] at h10
          unfold szT at h10 h12 h13
          rw [List.flatMap_cons, List.length_append] at h10
          omega
        have hQl : Q.length ≤ 2 ^ 18 := by
          have := szT_ge Fg (Q.drop i) (fun y hy => h6 y (List.mem_of_mem_drop hy))
          rw [List.length_drop] at this; omega
        refine w_iaddL (xs := Q.map .ref) (ys := ((kidsT g x).reverse.filter (fun c => decide (c ∉ S'))).map .ref) (putA_new hacc (hE.at_ _ _ e5)) putA_same (by simp only [List.length_map]; omega) ?_
        have hlsq : ls ≠ lq := hneqs
        repeat k_subL
        refine tail S' τb hS' e0 e1 e2 e3 e4 e5 _ rfl _ ?_ ?_ ?_ ⟨some (.ref x), ?_⟩ ?_ ?_
        · exact Ext.setL (Ext.putN (Ext.put (e0.trans hE) hacc) hlq')
        · exact setA (putA_ne hnc1q (putA_new hacc (hE.at_ _ _ e1)))
        · exact setA (putA_ne hlsq (putA_new hacc (hE.at_ _ _ e2)))
        · exact setA (putA_ne hnc2q (putA_new hacc (hE.at_ _ _ e3)))
        · k_clsL
        · rw [List.map_append]; exact setA putA_same
  · have hi : i = Q.length := by
      have := List.getElem?_eq_none_iff.mp hv; rw [List.length_map] at this; omega
    have hres : bfs g (Φ + 1) [a] [] = S := by
      rw [h9, hi, List.drop_length, show Φ + 1 - Q.length = (Φ - Q.length) + 1 by omega]; rfl
    repeat k_subL
    refine w_reversed h2 fun rv hrv => ?_
    repeat k_subL
    refine w_listRev R.deeper.hh (putA_new hrv h2) putA_same (by rw [sizeLine_eq]; simp only [List.length_map]; omega) fun r hr => ?_
    rw [Sg.del_put hrv] at hr ⊢
    repeat k_subL
    refine ⟨r, rfl, Ext.back hE hr, ?_, ?_⟩
    · rw [hres, ← List.map_reverse]; exact putA_same
    · exact ⟨(hE.put hr).setM, rfl⟩
end PartC3

section PartC4
open PySem PySem.W PyProof.Rows PySem.Calls
set_option maxRecDepth 100000
set_option maxHeartbeats 100000
set_option linter.unusedVariables false

theorem Ext.put2 {σ τ : Sg} {l : Addr} {x y : Cl} (e : Ext (σ.put l x) τ) : Ext (σ.put l y) (τ.put l y) := ⟨fun a c h => by
  by_cases q : a = l
  · subst q; rw [putA_same] at h ⊢; exact h
  · have h1 : σ.at_ a = some c := by simpa [Sg.put, q] using h
    exact putA_ne q (e.at_ a c (putA_ne q h1)), e.gens⟩
theorem NdAt.putL {σ : Sg} {a l : Addr} {nd : Nd} {xs ys : List Value} (h : NdAt σ a nd) (hl : σ.at_ l = some (.lst xs)) (hn : ∀ d' l' nm ks, nd = .node d' l' nm ks → l' ≠ l) : NdAt (σ.put l (.lst ys)) a nd := by
  have keepI : ∀ {y C d es}, Inst σ y C d es → Inst (σ.put l (.lst ys)) y C d es := fun I => ⟨putA_ne (fun e => by have := I.1; rw [e, hl] at this; cases this) I.1, putA_ne (fun e => by have := I.2; rw [e, hl] at this; cases this) I.2⟩
  cases nd with
  | node d' l' nm ks => obtain ⟨⟨t, I⟩, h⟩ := h; exact ⟨⟨t, keepI I⟩, putA_ne (hn _ _ _ _ rfl) h⟩
  | tok d k v => obtain ⟨t, u, I⟩ := h; exact ⟨t, u, keepI I⟩
section
variable {b : Base} {A : Around} {F : Fs} {L : Addr} {σ : Sg}
theorem bind1 {a : Addr} {v : Value} {Q : List (Str × Value) → Sg → Prop} (h : ∀ nt, σ.at_ nt = none → Q [("self", .ref a), ("data_values", .ref nt)] (σ.put nt (.obj (tupObj [v])))) : W b A F L (bindArgs fExpand.1 ⟨[.ref a, v], []⟩) σ Q := by
  refine W.bind (t := newTuple [v]) (w_newTuple (by rw [sizeLine_eq]; simp) fun nt hn => W.ofPure (a := ([("self", Value.ref a), ("data_values", .ref nt)] : List (Str × Value))) ?_ (h nt hn))
  rfl
theorem bind2 {a : Addr} {v v' : Value} {Q : List (Str × Value) → Sg → Prop} (h : ∀ nt, σ.at_ nt = none → Q [("self", .ref a), ("data_values", .ref nt)] (σ.put nt (.obj (tupObj [v, v'])))) : W b A F L (bindArgs fExpand.1 ⟨[.ref a, v, v'], []⟩) σ Q := by
  refine W.bind (t := newTuple [v, v']) (w_newTuple (by rw [sizeLine_eq]; simp) fun nt hn => W.ofPure (a := ([("self", Value.ref a), ("data_values", .ref nt)] : List (Str × Value))) ?_ (h nt hn))
  rfl
end
local macro_rules | `(tactic| k_clsL) => `(tactic| first
  | with_reducible assumption
  | (with_reducible show Sg.m (Sg.setL _ _ _) _ = some _; first | with_reducible exact getL_same | (apply getL_skip; with_unfolding_all decide; k_clsL))
  | (with_reducible show Sg.m (Sg.put _ _ _) _ = some _; apply putM; k_clsL)
  | (with_reducible show Sg.m (Sg.del _ _) _ = some _; apply delM; k_clsL)
  | (with_reducible show Sg.m (Sg.setM _ _) _ = some _; apply setMM; k_clsL)
  | (apply viaM; with_reducible assumption; k_clsL)
  | (apply viaE; with_reducible assumption; k_clsL))
local macro_rules | `(tactic| k_offL) => `(tactic| first
  | with_reducible assumption
  | with_reducible exact Ext.rfl
  | (with_reducible show Ext _ (Sg.setL _ _ _); refine Ext.setL ?_; k_offL)
  | (with_reducible show Ext _ (Sg.put _ _ _); refine Ext.put ?_ (by first | with_reducible assumption | with_reducible exact setA (by with_reducible assumption)); k_offL)
  | (with_reducible show Ext _ (Sg.setM _ _); refine Ext.setM ?_; k_offL)
  | (with_reducible refine Ext.tr (by with_reducible assumption) ?_; k_offL)
  | (with_reducible refine Ext.tr2 (by with_reducible assumption) ?_; k_offL))
local macro_rules | `(tactic| k_places) => `(tactic| first
  | with_reducible assumption
  | with_reducible exact putA_same
  | (with_reducible show Sg.at_ (Sg.setL _ _ _) _ = some _; apply setA; k_places)
  | (with_reducible show Sg.at_ (Sg.setM _ _) _ = some _; apply setMA; k_places)
  | (with_reducible show Sg.at_ (Sg.put _ _ _) _ = some _; apply putA_new; with_reducible assumption; k_places)
  | (apply ESt.at_; with_reducible assumption; k_places)
  | (apply Ext.at'; with_reducible assumption; k_places))
local macro_rules | `(tactic| k_subL) => `(tactic| first
  | (with_reducible show W _ _ _ _ (spliced (backTo _ (starEach [] _))) _ _; refine w_items0 ?_)
  | (with_reducible show W _ _ _ _ (spliced (backTo _ (starEach (_ :: _) _))) _ _; refine w_items ?_)
  | (with_reducible show W _ _ _ _ (eval (Expr.Name _ _) _) _ _; first | refine w_local (by with_unfolding_all rfl) (by k_clsL) ?_ | refine w_cell (by with_unfolding_all rfl) (by k_places) ?_ | (with_reducible show W _ _ _ _ (eval (Expr.Name ("Tree" : Str) _) _) _ _; refine w_glob (v := .ref 142) (by assumption) (by kernel_rfl) ?_) | (with_reducible show W _ _ _ _ (eval (Expr.Name ("Token" : Str) _) _) _ _; refine w_glob (v := .ref 45) (by assumption) (by kernel_rfl) ?_))
  | (with_reducible show W _ _ _ _ (eval (Expr.Call (Expr.Name ("isinstance" : Str) _) _ [] _) _) _ _; refine w_callB (n := "isinstance") (by assumption) boot_isi (by kernel_rfl) ?_)
  | (with_reducible show W _ _ _ _ (eval (Expr.Call (Expr.Name ("len" : Str) _) _ [] _) _) _ _; refine w_callB (n := "len") (by assumption) boot_len (by kernel_rfl) ?_)
  | (with_reducible show W _ _ _ _ (eval (Expr.Call (Expr.Name ("min" : Str) _) _ [] _) _) _ _; refine w_callB (n := "min") (by assumption) boot_min (by kernel_rfl) ?_)
  | (with_reducible show W _ _ _ _ (eval (Expr.Call (Expr.Name ("range" : Str) _) _ [] _) _) _ _; refine w_callT (n := "range") (by assumption) boot_range (by kernel_rfl) ?_)
  | (with_reducible show W _ _ _ _ (eval (Expr.Call (Expr.Name ("str" : Str) _) _ [] _) _) _ _; refine w_callT (n := "str") (by assumption) boot_str (by kernel_rfl) ?_)
  | (with_reducible show W _ _ _ _ (eval (Expr.Call (Expr.Name ("list" : Str) _) _ [] _) _) _ _; refine w_callT (n := "list") (by assumption) boot_list (by kernel_rfl) ?_)
  | (with_reducible show W _ _ _ _ (eval (Expr.Call (Expr.Name ("reversed" : Str) _) _ [] _) _) _ _; refine w_callT (n := "reversed") (by assumption) boot_rev (by kernel_rfl) ?_)
  | (with_reducible show W _ _ _ _ (eval (Expr.Call (Expr.Name ("filter" : Str) _) _ [] _) _) _ _; refine w_callT (n := "filter") (by assumption) boot_filter (by kernel_rfl) ?_)
  | (with_reducible show W _ _ _ _ (call (.builtin "len") [.ref _]) _ _; (refine w_len (by k_places) ?_ fun _ => ?_); rotate_left)
  | (with_reducible show W _ _ _ _ (binaryOp .Add (.int _ _) (.int _ _)) _ _; refine w_addI fun _ => ?_)
  | (with_reducible show W _ _ _ _ (binaryOp .Sub (.int _ _) (.int _ _)) _ _; refine w_subI fun _ => ?_)
  | (with_reducible show W _ _ _ _ (compareOp .Eq (.int _ _) (.int _ _)) _ _; refine w_eqI ?_)
  | (with_reducible show W _ _ _ _ (compareOp .NotEq (.int _ _) (.int _ _)) _ _; refine w_neI ?_)
  | (with_reducible show W _ _ _ _ (compareOp .Lt (.int _ _) (.int _ _)) _ _; refine w_ltI ?_)
  | (with_reducible show W _ _ _ _ (compareOp .Eq (.str _ _) (.str _ _)) _ _; refine w_eqS ?_)
  | (with_reducible show W _ _ _ _ (compareOp .NotEq (.bool _) (.bool _)) _ _; refine w_neB ?_)
  | (with_reducible show W _ _ _ _ (unaryOp .USub (.int _ _)) _ _; refine w_negI fun _ => ?_)
  | (with_reducible show W _ _ _ _ (unaryOp .Not _) _ _; refine w_notv ?_)
  | (with_reducible show W _ _ _ _ (eval (Expr.Attribute _ _ _) _) _ _; refine w_attr ?_)
  | (with_reducible show W _ _ _ _ (eval (Expr.List _ _) _) _ _; refine w_list ?_)
  | (with_reducible show W _ _ _ _ (eval (Expr.Tuple _ _ _) _) _ _; refine w_tuple ?_)
  | (with_reducible show W _ _ _ _ (eval (Expr.BinOp _ _ _ _) _) _ _; refine w_binop ?_)
  | (with_reducible show W _ _ _ _ (eval (Expr.Compare _ [_] [_] _) _) _ _; refine w_cmp ?_)
  | (with_reducible show W _ _ _ _ (eval (Expr.IfExp _ _ _ _) _) _ _; refine w_ifexp ?_)
  | (with_reducible show W _ _ _ _ (eval (Expr.Subscript _ _ _) _) _ _; refine w_sub ?_)
  | (with_reducible show W _ _ _ _ (eval (Expr.UnaryOp _ _ _) _) _ _; refine w_unop ?_)
  | (with_reducible show W _ _ _ _ (eval (Expr.Constant .none _ _) _) _ _; refine w_none ?_)
  | (with_reducible show W _ _ _ _ (eval (Expr.Constant (.bool _) _ _) _) _ _; refine w_tf ?_)
  | (with_reducible show W _ _ _ _ (eval (Expr.Constant (.int _) _ _) _) _ _; refine w_int ?_; intro _)
  | (with_reducible show W _ _ _ _ (eval (Expr.Constant (.str _) _ _) _) _ _; refine w_str ?_; intro _)
  | (with_reducible show W _ _ _ _ (execs [] _) _ _; refine w_nil ?_)
  | (with_reducible show W _ _ _ _ (execs (Stmt.Assign [Expr.Name _ _] (Expr.ListComp _ [Comprehension.mk _ _ _ _] _ _) _ :: _) _) _ _; refine w_cons (w_assignComp ?_))
  | (with_reducible show W _ _ _ _ (execs (Stmt.Assign [Expr.Name _ _] _ _ :: _) _) _ _; refine w_consA ?_)
  | (with_reducible show W _ _ _ _ (execs (Stmt.Assign [Expr.Attribute _ _ _] _ _ :: _) _) _ _; refine w_consAttr ?_)
  | (with_reducible show W _ _ _ _ (execs (Stmt.Assign [Expr.Subscript _ _ _] _ _ :: _) _) _ _; refine w_consSub ?_)
  | (with_reducible show W _ _ _ _ (execs (Stmt.If _ _ [] _ :: _) _) _ _; refine w_consIf ?_)
  | (with_reducible show W _ _ _ _ (execs (Stmt.If _ _ _ _ :: _) _) _ _; refine w_consElse ?_)
  | (with_reducible show W _ _ _ _ (execs (Stmt.Return (some _) _ :: _) _) _ _; refine w_consRet ?_)
  | (with_reducible show W _ _ _ _ (execs (Stmt.Break _ :: _) _) _ _; refine w_consBrk ?_)
  | (with_reducible show W _ _ _ _ (execs (Stmt.Continue _ :: _) _) _ _; refine w_consCont ?_)
  | (with_reducible show W _ _ _ _ (execs (Stmt.Expr (Expr.Call (Expr.Attribute _ _ _) [_] [] _) _ :: _) _) _ _; refine w_consApp ?_)
  | (with_reducible show W _ _ _ _ (execs (Stmt.Expr _ _ :: _) _) _ _; refine w_consE ?_)
  | (with_reducible show W _ _ _ _ (isTrue (Expr.UnaryOp .Not _ _) _ _) _ _; refine w_not ?_)
  | (with_reducible show W _ _ _ _ (isTrue (Expr.BoolOp _ _ _) _ _) _ _; refine w_bool ?_)
  | (with_reducible show W _ _ _ _ (allTrue .And [] _) _ _; refine w_andNil ?_)
  | (with_reducible show W _ _ _ _ (allTrue .Or [] _) _ _; refine w_orNil ?_)
  | (with_reducible show W _ _ _ _ (allTrue .And (_ :: _) _) _ _; refine w_and ?_)
  | (with_reducible show W _ _ _ _ (allTrue .Or (_ :: _) _) _ _; refine w_or ?_)
  | (with_reducible show W _ _ _ _ (isTrue (Expr.Compare _ [_] [_] _) _ _) _ _; refine w_tcmp ?_)
  | (with_reducible show W _ _ _ _ (isTrue _ _ _) _ _; refine w_tval ?_)
  | (with_reducible show W _ _ _ _ (storeName _ _ _) _ _; first | refine w_storeL (by with_unfolding_all rfl) ?_ | refine w_storeC (by with_unfolding_all rfl) (by k_places) ?_)
  | (with_reducible show W _ _ _ _ (tests [_] _) _ _; refine w_tests1 ?_)
  | (with_reducible show W _ _ _ _ (tests [] _) _ _; refine w_tests0 ?_)
  | (with_reducible show W _ _ _ _ (eval (Expr.ListComp _ [Comprehension.mk _ _ _ _] _ _) _) _ _; refine w_listcomp ?_)
  | (with_reducible show W _ _ _ _ (truthy (.bool _)) _ _; refine w_truthyB ?_)
  | (with_reducible show thenK _ _ Flow.next _; refine thenK_next ?_)
  | (with_reducible show thenK _ _ Flow.brk _; refine thenK_brk ?_)
  | (with_reducible show thenK _ _ Flow.cont _; refine thenK_cont ?_)
  | (with_reducible show thenK _ _ (Flow.ret _) _; refine thenK_ret ?_)
  | (with_reducible show turnK _ _ _ Flow.next _; refine turnK_next ?_)
  | (with_reducible show turnK _ _ _ Flow.brk _; refine turnK_brk ?_)
  | (with_reducible show turnK _ _ _ Flow.cont _; refine turnK_cont ?_)
  | (with_reducible show turnK _ _ _ (Flow.ret _) _; refine turnK_ret ?_))

theorem wc_fnM {b : Base} {A : Around} {F : Fs} {L : Addr} {σ : Sg} {f : Addr} {args : Args} {fd : FuncData} {body : List Stmt} {Q : Value → Sg → Prop}
    (G : Glb b) (ho : (Kb b).lookup f = some { cls := .type "function", data := .func fd }) (hcd : codeIn (Kb b) fd.code fd.qualname = true) (hbody : fd.body = .stmts body) (hd : A.depth < recursionLimit)
    (h : W b A.in1 F L (bindArgs fd args) σ fun binds σ₀ => ∀ L', CellK fd.scope.names fd.closure (σ₀.setM fun _ => none) fun cs σ₁ => BindK (fnEnv fd L' cs f) binds σ₁ fun σ₂ =>
      W b (A.deeper (fnEnv fd L' cs f)) ((L, .ns σ₀.m) :: F) L' (execs body (fnEnv fd L' cs f)) σ₂ fun fl σ' => Q (retOf fl) (σ'.setM σ₀.m))
    (hco : fd.scope.isCoroutine = false := by rfl) (hgen : fd.scope.isGenerator = false := by rfl) (hk : fd.scope.kind = .function := by rfl) : WC b A F L (.call (.ref f) args) σ Q := wc_fn G ho hcd hbody hd h hco hgen hk
theorem gopen_cons {g : Gf} {nms : List Str} {k : Addr} {ks : List Addr} : gopen g nms (k :: ks) = (named g nms k).getD [k] ++ gopen g nms ks := rfl

theorem c_expand {b : Base} (G : Glb b) {g : Gf} {A : Around} {F : Fs} {L : Addr} {σ : Sg} {n : Nat} {a d l : Addr} {nm : Str} {ks : List Addr} {vs : List Value} {nms : List Str} (R : Rm A (n + 1)) (hG : Gr σ g) (e : g a = some (.node d l nm ks))
    (hk : ∀ c ∈ ks, ∃ nd, g c = some nd) (hs : StrsAre vs nms) (hz : (gopen g nms ks).length ≤ 2 ^ 18) (hkz : ks.length ≤ 2 ^ 18)
    (hsep : ∀ c ∈ ks, ∀ d' l' nm' ks', g c = some (.node d' l' nm' ks') → l' ≠ l ∧ ks'.length ≤ 2 ^ 18)
    (hb : ∀ Q : List (Str × Value) → Sg → Prop, (∀ nt, σ.at_ nt = none → Q [("self", .ref a), ("data_values", .ref nt)] (σ.put nt (.obj (tupObj vs)))) → W b A.in1 F L (bindArgs fExpand.1 ⟨.ref a :: vs, []⟩) σ Q) :
    WC b A F L (.call (.ref 118) ⟨.ref a :: vs, []⟩) σ fun v σ' => v = .bool (ks.any fun c => (named g nms c).isSome) ∧ ESt (σ.put l (.lst ((gopen g nms ks).map .ref))) σ' := by
  refine wc_fnM (fd := fExpand.1) G (fExpand.2 _) (by kernel_rfl) rfl R.dep ?_
  refine hb _ fun nt hnt => ?_
  intro L'
  show W _ _ _ _ _ _ _
  have hl := (hG a _ e).2
  have hnt1 : (σ.put nt (.obj (tupObj vs))).at_ nt = some (.obj (tupObj vs)) := putA_same
  have hE0 : Ext (σ.put l (.lst (ks.map .ref))) ((((σ.put nt (.obj (tupObj vs))).setM fun _ => none).setL (Str.ofString "self") (Value.ref a)).setL (Str.ofString "data_values") (Value.ref nt)) := by
    refine Ext.setL (Ext.setL (Ext.setM ⟨fun y c h => ?_, [], by simp [Sg.put], fun _ h => by cases h⟩))
    have hy : σ.at_ y = some c := by
      by_cases q : y = l
      · subst q; rw [putA_same] at h; cases h; exact hl
      · simpa [Sg.put, q] using h
    exact putA_new hnt hy
  have hm1 : ((((σ.put nt (.obj (tupObj vs))).setM fun _ => none).setL (Str.ofString "self") (Value.ref a)).setL (Str.ofString "data_values") (Value.ref nt)).m "self" = some (.ref a) := by k_clsL
  have hm2 : ((((σ.put nt (.obj (tupObj vs))).setM fun _ => none).setL (Str.ofString "self") (Value.ref a)).setL (Str.ofString "data_values") (Value.ref nt)).m "data_values" = some (.ref nt) := by k_clsL
  have hn2 : ((((σ.put nt (.obj (tupObj vs))).setM fun _ => none).setL (Str.ofString "self") (Value.ref a)).setL (Str.ofString "data_values") (Value.ref nt)).at_ nt = some (.obj (tupObj vs)) := setA (setA hnt1)
  generalize ((((σ.put nt (.obj (tupObj vs))).setM fun _ => none).setL (Str.ofString "self") (Value.ref a)).setL (Str.ofString "data_values") (Value.ref nt)) = τ0 at hE0 hm1 hm2 hn2
  show W b _ _ _ _ τ0 _
  have hnd : ∀ (cur : List Value) τ, Ext (σ.put l (.lst cur)) τ → ∀ c ∈ ks, ∀ nd, g c = some nd → NdAt τ c nd := fun cur τ hE c hc nd hg => by
    refine (NdAt.putL (hG c nd hg) hl fun d' l' nm' ks' q => ?_).ext hE
    subst q; exact (hsep c hc _ _ _ _ hg).1
  have hself : ∀ (cur : List Value) τ, Ext (σ.put l (.lst cur)) τ → ∃ t, Inst τ a 142 d [("data", .str nm t), ("children", .ref l), ("_meta", .none)] := fun cur τ hE => by
    obtain ⟨⟨t, I1, I2⟩, _⟩ := hG a _ e
    exact ⟨t, hE.at_ _ _ (putA_ne (fun q => by rw [q, hl] at I1; cases I1) I1), hE.at_ _ _ (putA_ne (fun q => by rw [q, hl] at I2; cases I2) I2)⟩
  have hntl : nt ≠ l := fun q => by rw [q, hl] at hnt; cases hnt
  have hdl : ∀ j, (gopen g nms (ks.drop j)).length ≤ (gopen g nms ks).length := fun j => by
    conv => rhs; rw [← List.take_append_drop j ks]
    unfold gopen; rw [List.flatMap_append, List.length_append]; omega
  repeat k_subL
  refine w_forRange R.deeper.hh ks.length ((ks.length : Int) - 1) (-1) (fun i τ => Ext (σ.put l (.lst ((ks.take (ks.length - i) ++ gopen g nms (ks.drop (ks.length - i))).map .ref))) τ ∧ τ.m "self" = some (.ref a) ∧ τ.m "data_values" = some (.ref nt) ∧ τ.at_ nt = some (.obj (tupObj vs)) ∧
    τ.m "changed" = some (.bool ((ks.drop (ks.length - i)).any fun c => (named g nms c).isSome))) ?_
  obtain ⟨t0, I0⟩ := hself _ τ0 hE0
  repeat k_subL
  refine w_children G (ks := ks) (d := d) (nm := nm) ⟨⟨t0, I0⟩, hE0.at_ _ _ putA_same⟩ ?_
  repeat k_subL
  rotate_left
  · simp only [List.length_map]; omega
  rw [List.length_map]
  refine w_range3 (PyProof.noPylong_small (by omega)) fun r hr => ?_
  have hrg := range_down ks.length (by omega)
  refine ⟨r, _, _, _, _, rfl, putA_same, hrg.1, hrg.2, ⟨?_, ?_, ?_, putA_new hr hn2, ?_⟩, fun i t τ Fa hi ⟨hE, h1, h2, h3, h4⟩ => ?_, fun τ ⟨hE, h1, h2, h3, h4⟩ => ?_⟩
  · rw [Nat.sub_zero, List.take_length, List.drop_length]
    show Ext (σ.put l (.lst ((ks ++ []).map .ref))) _
    rw [List.append_nil]; exact Ext.put (Ext.setL hE0) hr
  · k_clsL
  · k_clsL
  · rw [Nat.sub_zero, List.drop_length]; exact putM getL_same
  · obtain ⟨j, hj⟩ : ∃ j, ks.length - i = j + 1 := ⟨ks.length - i - 1, by omega⟩
    have hj2 : ks.length - (i + 1) = j := by omega
    have hjl : j < ks.length := by omega
    rw [show (ks.length : Int) - 1 + (i : Int) * -1 = (j : Int) by omega]
    rw [hj] at hE h4
    rw [hj2]
    obtain ⟨nd, hndj⟩ := hk ks[j] (List.getElem_mem _)
    have hcur : (ks.take (j + 1) ++ gopen g nms (ks.drop (j + 1))) = ks.take j ++ ks[j] :: gopen g nms (ks.drop (j + 1)) := by rw [List.take_add_one, List.getElem?_eq_getElem hjl, Option.toList_some, List.append_assoc]; rfl
    have hcl : (ks.take (j + 1) ++ gopen g nms (ks.drop (j + 1))).length ≤ 2 ^ 19 := by rw [List.length_append, List.length_take]; have h12 := hdl (j + 1); omega
    have hdj : ks.drop j = ks[j] :: ks.drop (j + 1) := List.drop_eq_getElem_cons hjl
    obtain ⟨t1, I1⟩ := hself _ τ hE
    have hlτ := hE.at_ _ _ (putA_same (σ := σ) (a := l))
    refine w_storeL (by with_unfolding_all rfl) ?_
    repeat k_subL
    refine w_children G (ks := ks.take (j + 1) ++ gopen g nms (ks.drop (j + 1))) (d := d) (nm := nm) ⟨⟨t1, I1⟩, hlτ⟩ ?_
    repeat k_subL
    refine w_item (v := .ref ks[j]) hlτ ?_ (by rw [List.length_map]; omega) ?_
    · rw [List.getElem?_map, hcur, List.getElem?_append_right (by rw [List.length_take]; omega)]
      rw [List.length_take, show j - min j ks.length = 0 by omega]; rfl
    refine w_storeL (by with_unfolding_all rfl) ?_
    have hndτ := hnd _ τ hE ks[j] (List.getElem_mem _) nd hndj
    refine w_consIfP (fun τb => Ext (σ.put l (.lst ((ks.take j ++ gopen g nms (ks.drop j)).map .ref))) τb ∧ τb.m "self" = some (.ref a) ∧ τb.m "data_values" = some (.ref nt) ∧ τb.at_ nt = some (.obj (tupObj vs)) ∧
      τb.m "changed" = some (.bool ((ks.drop j).any fun c => (named g nms c).isSome)))
      (W.mono (Q := fun t' σ' => t' = (named g nms ks[j]).isSome ∧ ESt ((τ.setL "i" (.int j t)).setL "child" (.ref ks[j])) σ') ?_ fun t' σ' ⟨ht, hEs⟩ => ?_) ?_
    · repeat k_subL
      refine w_isTree (nd := nd) G hndτ ?_
      repeat k_subL
      refine ⟨fun hb => ?_, fun hb => ⟨?_, ESt.rfl⟩⟩
      · cases nd with
        | tok => cases hb
        | node dc lc nc kc =>
          repeat k_subL
          refine w_data G hndτ fun t2 => ?_
          repeat k_subL
          refine w_inT (by k_places) hs ?_
          repeat k_subL
          refine ⟨fun hb => ?_, fun hb => ⟨?_, ESt.rfl⟩⟩
          · repeat k_subL
            refine ⟨?_, ESt.rfl⟩
            unfold named; rw [hndj]; simp [hb]
          · unfold named; rw [hndj]; simp [hb]
      · unfold named; rw [hndj]; cases nd with
        | node => cases hb
        | tok => rfl
    rotate_left
    · have hEτ : Ext τ σ' := by k_offL
      have hE2 := hE.trans hEτ
      have hgo : gopen g nms (ks.drop j) = (named g nms ks[j]).getD [ks[j]] ++ gopen g nms (ks.drop (j + 1)) := by rw [hdj]; rfl
      refine ⟨fun h1' => ?_, fun h1' => ?_⟩
      · rw [h1'] at ht
        obtain ⟨kc, hkc⟩ := Option.isSome_iff_exists.mp ht.symm
        obtain ⟨dc, lc, nc, hgc⟩ : ∃ dc lc nc, g ks[j] = some (.node dc lc nc kc) := by
          unfold named at hkc; rw [hndj] at hkc; cases nd with
          | tok => cases hkc
          | node dc lc nc kc' =>
            simp only at hkc
            split at hkc
            · cases hkc; exact ⟨dc, lc, nc, hndj⟩
            · cases hkc
        have hcτ := hnd _ σ' hE2 ks[j] (List.getElem_mem _) _ hgc
        have hkcl := (hsep ks[j] (List.getElem_mem _) _ _ _ _ hgc).2
        obtain ⟨t3, I3⟩ := hself _ σ' hE2
        have hlσ := hE2.at_ _ _ (putA_same (σ := σ) (a := l))
        rw [hkc] at hgo
        simp only [Option.getD_some] at hgo
        repeat k_subL
        refine w_children G hcτ ?_
        repeat k_subL
        refine w_children G (ks := ks.take (j + 1) ++ gopen g nms (ks.drop (j + 1))) (d := d) (nm := nm) ⟨⟨t3, I3⟩, hlσ⟩ ?_
        repeat k_subL
        refine w_slice (w_part1 ?_)
        repeat k_subL
        refine w_part1 ?_
        repeat k_subL
        intro sl hsl
        have hnew : (ks.take (j + 1) ++ gopen g nms (ks.drop (j + 1))).map Value.ref = (ks.take j ++ ks[j] :: gopen g nms (ks.drop (j + 1))).map .ref := by rw [hcur]
        rw [show (j : Int) + 1 = ((j + 1 : Nat) : Int) by omega]
        refine w_setSlice (k := j) (xs := (ks.take (j + 1) ++ gopen g nms (ks.drop (j + 1))).map .ref) (ys := kc.map .ref) (putA_new hsl hlσ) (putA_new hsl hcτ.2) putA_same ?_ ?_ ?_ ?_
        · rw [List.length_map, hcur, List.length_append, List.length_take, List.length_cons]; omega
        · rw [sizeLine_eq]; simp only [List.length_map]; omega
        · simp only [List.length_map]; omega
        have hfin : ((ks.take (j + 1) ++ gopen g nms (ks.drop (j + 1))).map Value.ref).take j ++ kc.map .ref ++ ((ks.take (j + 1) ++ gopen g nms (ks.drop (j + 1))).map Value.ref).drop (j + 1) = (ks.take j ++ gopen g nms (ks.drop j)).map .ref := by
          rw [hgo, hcur]
          have hl1 : (ks.take j).length = j := by rw [List.length_take]; omega
          rw [← List.map_take, ← List.map_drop, List.take_left' hl1, show ks.take j ++ ks[j] :: gopen g nms (ks.drop (j + 1)) = (ks.take j ++ [ks[j]]) ++ gopen g nms (ks.drop (j + 1)) by rw [List.append_assoc]; rfl, List.drop_left' (by rw [List.length_append, hl1]; rfl)]
          simp
        rw [hfin]
        repeat k_subL
        refine ⟨Ext.setL (Ext.put2 (Ext.put hE2 hsl)), ?_, ?_, ?_, ?_⟩
        · k_clsL
        · k_clsL
        · exact setA (putA_ne hntl (putA_new hsl (hEτ.at_ _ _ h3)))
        · rw [hdj, List.any_cons, hkc]
          exact getL_same
      · rw [h1'] at ht
        have hkc : named g nms ks[j] = none := by cases q : named g nms ks[j] with
          | none => rfl
          | some _ => rw [q] at ht; cases ht
        rw [hkc] at hgo
        refine ⟨?_, ?_, ?_, ?_, ?_⟩
        · rw [hgo]
          show Ext (σ.put l (.lst ((ks.take j ++ ks[j] :: gopen g nms (ks.drop (j + 1))).map .ref))) σ'
          rw [← hcur]; exact hE2
        · k_clsL
        · k_clsL
        · exact hEτ.at_ _ _ h3
        · rw [hdj, List.any_cons, hkc]
          show σ'.m "changed" = some (.bool ((ks.drop (j + 1)).any fun c => (named g nms c).isSome))
          k_clsL
    · rintro τb ⟨e0, e1, e2, e3, e4⟩
      repeat k_subL
      exact ⟨e0, e1, e2, e3, e4⟩
  · rw [Nat.sub_self] at hE h4
    repeat k_subL
    exact ⟨rfl, hE.setM, rfl⟩
end PartC4

section PartC5
open PySem PySem.W PyProof.Rows PySem.Calls
set_option maxRecDepth 100000
set_option maxHeartbeats 400000
set_option linter.unusedVariables false

section
variable {b : Base} {A : Around} {F : Fs} {L : Addr} {σ : Sg} {env : Env}
theorem w_and1 {e pos} {Q : Value → Sg → Prop} (h : W b A F L (eval e env) σ Q) : W b A F L (eval (.BoolOp .And [e] pos) env) σ Q := fun s E z => BoolOp_one (h s E z)
theorem w_and2 {e₁ e₂ rest pos} {Q : Value → Sg → Prop} (h : W b A F L (eval e₁ env) σ fun v σ₁ => W b A F L (truthy v) σ₁ fun c σ₂ => (c = true → W b A F L (eval (.BoolOp .And (e₂ :: rest) pos) env) σ₂ Q) ∧ (c = false → Q v σ₂)) :
    W b A F L (eval (.BoolOp .And (e₁ :: e₂ :: rest) pos) env) σ Q := fun s E z =>
  BoolOp_and (wpAny_mono (h s E z) (fun v s₁ ⟨σ₁, z₁, q⟩ => wpAny_mono (q s₁ E z₁) (fun c s₂ ⟨σ₂, z₂, q⟩ => by
    cases c
    · exact ⟨σ₂, z₂, q.2 rfl⟩
    · exact q.1 rfl s₂ E z₂) fun _ _ e => e) fun _ _ e => e)

/-- a compare of an object: its class's own word -/
theorem w_rich {op : CmpOp} {x C d f : Addr} {es : List (Str × Value)} {bv tb : Value} {Q : Value → Sg → Prop} (G : Glb b) (I : Inst σ x C d es) (hu : A.units < cLine) (hb : ∀ s, St b F L σ s → Looks (model P b.w) s.heap (typeOf bv) tb)
    (hn : notFirst (Kb b) C tb = true) (hs : findIn (Kb b) (.ref C) (cmpInfo op).2.1 = some (some (.ref f))) (hf : isFn (Kb b) (.ref f) = true) (h : W b A F L (call (.ref f) [.ref x, bv]) σ fun v σ' => v ≠ .notImplemented ∧ Q v σ') :
    W b A F L (richCompare op (.ref x) bv) σ Q := fun s E z => by
  obtain ⟨od, I', _⟩ := z.inst I
  have X := G.k.keeps z.keep
  have hb := hb s z
  have one : wpAny (model P b.w) A (tryCompare (.ref x) (cmpInfo op).2.1 bv) (fun r s' => ∃ v, r = some v ∧ ∃ σ', St b F L σ' s' ∧ Q v σ') E s := by
    unfold tryCompare
    refine wpAny_bind (ifBound_K X I' hs hf (wpAny_mono (h s E z) (fun v s' ⟨σ', z', hv, q⟩ => ?_) fun _ _ e => e))
    cases v <;> first | exact absurd rfl hv | exact wpAny_pure ⟨_, rfl, σ', z', q⟩
  unfold richCompare
  simp only [oneThing_ref]
  refine wpAny_holding (wpAny_bind (wpAny_cRoomFor hu ?_))
  refine wpAny_bind (I'.type.here (wpAny_bind (hb.here ?_)))
  split
  · rename_i q
    have e : subIn (Kb b) tb (.ref C) = some false := by
      rcases Bool.or_eq_true_iff.mp hn with e | e
      · rw [beq_iff_eq.mp e] at q; simp at q
      · exact beq_iff_eq.mp e
    refine wpAny_bind ((looks_subIn X e).here ?_)
    simp only [Bool.false_eq_true, if_false]
    refine wpAny_bind (wpAny_mono one (fun r s' z => ?_) fun _ _ e => e)
    obtain ⟨v, rfl, hq⟩ := z
    exact wpAny_pure hq
  · refine wpAny_bind (wpAny_pure ?_)
    simp only [Bool.false_eq_true, if_false]
    refine wpAny_bind (wpAny_mono one (fun r s' z => ?_) fun _ _ e => e)
    obtain ⟨v, rfl, hq⟩ := z
    exact wpAny_pure hq
theorem looksI {x C d : Addr} {es : List (Str × Value)} (I : Inst σ x C d es) : ∀ s, St b F L σ s → Looks (model P b.w) s.heap (typeOf (.ref x)) (.ref C) := fun s z => by
  obtain ⟨od, I', _⟩ := z.inst I
  exact I'.type
/-- eqBool: one thing, or by its class's word -/
theorem w_eqBool {x y : Addr} {Q : Bool → Sg → Prop} (h1 : x = y → Q true σ) (h2 : x ≠ y → W b A F L (richCompare .Eq (.ref x) (.ref y)) σ fun v σ' => ∃ c, v = .bool c ∧ Q c σ') : W b A F L (eqBool (.ref x) (.ref y)) σ Q := fun s E z => by
  unfold eqBool
  refine wpAny_holding ?_
  by_cases e : x = y
  · refine wpAny_ite_split (fun _ => ?_) (fun hab => absurd (by rw [e]; exact beq_self_eq_true _) hab)
    exact wpAny_bind (wpAny_rule (wpAny_pure ⟨σ, z, h1 e⟩))
  · refine wpAny_ite_split (fun hab => absurd (by have := eq_of_beq hab; injection this) e) (fun _ => ?_)
    refine wpAny_bind (wpAny_mono (h2 e s E z) (fun v s' ⟨σ', z', c, hv, q⟩ => ?_) fun _ _ e => e)
    subst hv
    exact wpAny_truthy_bool ⟨σ', z', q⟩
theorem w_try {body orelse : List Stmt} {h₀ : ExceptHandler} {hs : List ExceptHandler} {pos : Pos} {rest : List Stmt} {Q : Flow → Sg → Prop}
    (h : W b A F L (execs body env) σ fun f σ₁ => ∃ v, f = .ret v ∧ Q (.ret v) σ₁) : W b A F L (execs (.Try body (h₀ :: hs) orelse [] pos :: rest) env) σ Q :=
  w_cons fun s E z => wpAny_Try_except (wpAny_mono (h s _ z) (fun f s₁ ⟨σ₁, z₁, v, hf, q⟩ => by subst hf; exact ⟨σ₁, z₁, q⟩) fun _ _ e => e)
end

/-- equal, as the text's own words say -/
def allZ (f : Addr → Addr → Bool) : List Addr → List Addr → Bool
  | [], [] => true
  | x :: xs, y :: ys => f x y && allZ f xs ys
  | _, _ => false
def eqv (g h : Gf) : Nat → Addr → Addr → Bool
  | 0, x, y => match g x, h y with
    | some (.tok _ k v), some (.tok _ k' v') => k == k' && v == v'
    | _, _ => false
  | n + 1, x, y => match g x, h y with
    | some (.tok _ k v), some (.tok _ k' v') => k == k' && v == v'
    | some (.node _ _ nm ks), some (.node _ _ nm' ks') => nm == nm' && allZ (eqv g h n) ks ks'
    | _, _ => false
theorem eqv_tok {g h : Gf} {n : Nat} {x y d d' : Addr} {k v k' v' : Str} (h1 : g x = some (.tok d k v)) (h2 : h y = some (.tok d' k' v')) : eqv g h n x y = (k == k' && v == v') := by
  cases n <;> (unfold eqv; rw [h1, h2])
theorem eqv_tn {g h : Gf} {n : Nat} {x y d d' l' : Addr} {k v nm' : Str} {ks' : List Addr} (h1 : g x = some (.tok d k v)) (h2 : h y = some (.node d' l' nm' ks')) : eqv g h n x y = false := by
  cases n <;> (unfold eqv; rw [h1, h2])
theorem eqv_nt {g h : Gf} {n : Nat} {x y d d' l' : Addr} {k v nm' : Str} {ks' : List Addr} (h1 : g x = some (.node d' l' nm' ks')) (h2 : h y = some (.tok d k v)) : eqv g h n x y = false := by
  cases n <;> (unfold eqv; rw [h1, h2])
theorem mapRef_inj : ∀ {ks ks' : List Addr}, ks.map Value.ref = ks'.map Value.ref → ks = ks'
  | [], [], _ => rfl
  | [], _ :: _, h => by simp at h
  | _ :: _, [], h => by simp at h
  | a :: r, b :: q, h => by
    simp only [List.map_cons, List.cons.injEq] at h
    obtain ⟨h1, h2⟩ := h
    injection h1 with h1
    rw [h1, mapRef_inj h2]
theorem NdAt.uniq {σ : Sg} {a : Addr} {nd nd' : Nd} (h : NdAt σ a nd) (h' : NdAt σ a nd') : nd = nd' := by
  cases nd with
  | node d l nm ks =>
    obtain ⟨⟨t, I1, I2⟩, h3⟩ := h
    cases nd' with
    | node d' l' nm' ks' =>
      obtain ⟨⟨t', I1', I2'⟩, h3'⟩ := h'
      rw [I1] at I1'; injection I1' with e; injection e with e; unfold instObj at e; injection e with _ e; injection e with e; subst e
      rw [I2] at I2'; injection I2' with e; injection e with e; simp at e; obtain ⟨⟨e1, _⟩, e2⟩ := e; subst e1 e2
      rw [h3] at h3'; injection h3' with e; injection e with e
      have : ks = ks' := mapRef_inj e
      subst this; rfl
    | tok d' k' v' =>
      obtain ⟨t', u', I1', I2'⟩ := h'
      rw [I1] at I1'; injection I1' with e; injection e with e; unfold instObj at e; injection e with e; injection e with e; cases e
  | tok d k v =>
    obtain ⟨t, u, I1, I2⟩ := h
    cases nd' with
    | node d' l' nm' ks' =>
      obtain ⟨⟨t', I1', I2'⟩, h3'⟩ := h'
      rw [I1] at I1'; injection I1' with e; injection e with e; unfold instObj at e; injection e with e; injection e with e; cases e
    | tok d' k' v' =>
      obtain ⟨t', u', I1', I2'⟩ := h'
      rw [I1] at I1'; injection I1' with e; injection e with e; unfold instObj at e; injection e with _ e; injection e with e; subst e
      rw [I2] at I2'; injection I2' with e; injection e with e; simp at e; obtain ⟨⟨e1, _⟩, e2, _⟩ := e; subst e1 e2; rfl
theorem eqv_self {σ : Sg} {g h : Gf} (hg : Gr σ g) (hh : Gr σ h) : ∀ n x, Dp g n x → Dp h n x → eqv g h n x x = true := by
  intro n
  induction n with
  | zero =>
    intro x ⟨d, k, v, e⟩ ⟨d', k', v', e'⟩
    have := (hg x _ e).uniq (hh x _ e'); injection this with _ e1 e2; subst e1 e2
    rw [eqv_tok e e']; simp
  | succ n ih =>
    intro x hD hD'
    obtain ⟨nd, e⟩ := hD.some
    obtain ⟨nd', e'⟩ := hD'.some
    have := (hg x _ e).uniq (hh x _ e'); subst this
    cases nd with
    | tok d k v => rw [eqv_tok e e']; simp
    | node d l nm ks =>
      unfold eqv; rw [e, e']
      unfold Dp at hD hD'; rw [e] at hD; rw [e'] at hD'
      simp only [beq_self_eq_true, Bool.true_and]
      have : ∀ ks : List Addr, (∀ k ∈ ks, Dp g n k) → (∀ k ∈ ks, Dp h n k) → allZ (eqv g h n) ks ks = true := fun ks => by
        induction ks with
        | nil => intro _ _; rfl
        | cons k ks ih2 => intro h1 h2; unfold allZ; rw [ih k (h1 k (.head _)) (h2 k (.head _)), ih2 (fun q hq => h1 q (.tail _ hq)) fun q hq => h2 q (.tail _ hq)]; rfl
      exact this ks hD hD'
end PartC5

section PartC6
open PySem PySem.W PyProof.Rows PySem.Calls Builtin Builtin.ObjectAttr
set_option maxRecDepth 100000
set_option maxHeartbeats 400000
set_option linter.unusedVariables false

/-- an object lacks a name: AttributeError -/
theorem get_missing {b : Base} {A : Around} {s : Shared} {E : Value → Shared → Prop} {Q : Value → Shared → Prop} {x : Addr} {ox od : Obj} {name : Str} (X : (Kb b).In s.heap) (I : InstAt s.heap x ox 45 (some od)) (hga : findIn (Kb b) (.ref 45) "__getattribute__" = some (some (.builtin "object.__getattribute__")))
    (hf : findObj (Kb b) 45 (some od) name = some .missing) (hk : findIn (Kb b) (.ref 45) "__getattr__" = some none) (hh : A.handled = none) (hsz : name.length + 100 ≤ sizeLine)
    (h : ∀ h' tk e, Heap.NewExcOf s.heap h' e "AttributeError" → E (.ref e) { s with heap := h', toks := tk }) : wpAny (model P b.w) A (getAttr (.ref x) name true) Q E s := by
  refine get_open X I hga ?_
  obtain ⟨hh', g, d, t, os⟩ := s
  have L0 := I.type (M := model P b.w)
  have L1 := looks_find (M := model P b.w) X I hf
  have L2 := looks_findIn (M := model P b.w) X hk
  refine wpAny_bind (wpAny_pure (wpAny_bind (L0.at (wpAny_bind (L1.at (wpAny_bind (L2.at ?_)))))))
  show wpAny _ _ (noSuchAttribute (.ref x) name) _ _ _
  unfold noSuchAttribute
  refine wpAny_bind ?_
  have T : Looks (model P b.w) hh' (typeNameOfCut 100 (.ref x)) "Token" := by
    obtain ⟨cd, hc, _⟩ := any_some (cls45 b).dict
    have hn : (clsIn (Kb b) 45).map (·.name) = some "Token" := by kernel_rfl
    rw [hc] at hn
    have hn : cd.name = "Token" := by simpa using hn
    have LC := looks_clsIn (M := model P b.w) X hc
    intro A Q E s k q
    unfold typeNameOfCut shownTypeOf
    refine wpAny_bind (wpAny_bind (L0 A _ E s k ?_))
    rw [if_neg (by decide)]
    refine wpAny_pure ?_
    unfold typeNameCut
    refine wpAny_bind (LC A _ E s k ?_)
    rw [hn]
    rw [if_pos (by decide +kernel)]
    exact wpAny_pure q
  refine T.at ?_
  refine wpAny_raiseAttrError hh (fun h' tk e hx => ?_) (attrMsg_fits (by decide +kernel) hsz)
  obtain ⟨t', u', he⟩ := hx.there
  show wpAny _ _ (noteAttr (.ref e) (.ref x) (.str name _)) _ _ _
  unfold noteAttr
  have hT : Shared.TypeIs { heap := h', gens := g, drawn := d, toks := tk, os := os } (.ref e) "AttributeError" := ⟨_, he, rfl⟩
  have f1 := sub_AttributeError
  repeat (any_goals (first | assumption | wp_step))
  exact h _ _ _ hx.of

/-- the frames about, and which entries they are -/
def Frs (A : Around) (F : Fs) (L : Addr) : Prop := ∃ envs, A.frames = some envs ∧ ∀ e ∈ envs, e.scope.kind ≠ .module ∧ ∃ l, e.frame = some l ∧ (l = L ∨ ∃ m, (l, Kp.ns m) ∈ F)
theorem Frs.deeper {A : Around} {F : Fs} {L L' f : Addr} {m : NsMap} {fd : FuncData} {cs : List (Str × Addr)} (h : Frs A F L) (hk : fd.scope.kind = .function) : Frs (A.deeper (fnEnv fd L' cs f)) ((L, .ns m) :: F) L' := by
  obtain ⟨envs, he, h⟩ := h
  refine ⟨fnEnv fd L' cs f :: envs, ?_, fun e hm => ?_⟩
  · unfold Around.deeper; simp [he, fnEnv, newEnv]
  · rcases List.mem_cons.mp hm with rfl | hm
    · exact ⟨by show fd.scope.kind ≠ _; rw [hk]; decide, L', rfl, .inl rfl⟩
    · obtain ⟨h1, l, h2, h3⟩ := h e hm
      refine ⟨h1, l, h2, .inr ?_⟩
      rcases h3 with rfl | ⟨m', h3⟩
      · exact ⟨m, .head _⟩
      · exact ⟨m', .tail _ h3⟩
end PartC6

section PartC7
open PySem PySem.W PyProof.Rows PySem.Calls
set_option maxRecDepth 100000
set_option maxHeartbeats 400000
set_option linter.unusedVariables false

/-- the frames' dicts taken away -/
def strip : List Addr → Heap → Heap
  | [], h => h
  | a :: r, h => strip r (h.update a fun o => { o with data := .freed })
theorem strip_not {a : Addr} : ∀ (fs : List Addr) (h : Heap), a ∉ fs → (strip fs h).get? a = h.get? a
  | [], h, _ => rfl
  | b :: r, h, hn => by
    unfold strip
    rw [strip_not r _ fun q => hn (.tail _ q)]
    exact Heap.get?_update_other _ _ fun e => hn (e ▸ .head _)
theorem freed_none (h : Heap) (a : Addr) : (h.update a fun o => { o with data := .freed }).get? a = none := by
  cases h with | mk objs life => ?_
  simp only [Heap.update, Heap.get?, Array.getElem?_modify, if_true]
  cases objs[a]? <;> rfl
theorem strip_none {a : Addr} : ∀ (fs : List Addr) (h : Heap), h.get? a = none → (strip fs h).get? a = none
  | [], h, e => e
  | b :: r, h, e => by
    unfold strip
    refine strip_none r _ ?_
    by_cases q : b = a
    · subst q
      exact freed_none _ _
    · rw [Heap.get?_update_other _ _ q]; exact e
theorem strip_in {a : Addr} : ∀ (fs : List Addr) (h : Heap), a ∈ fs → (strip fs h).get? a = none
  | b :: r, h, hm => by
    unfold strip
    by_cases q : b = a
    · subst q
      exact strip_none r _ (freed_none _ _)
    · rcases List.mem_cons.mp hm with e | hm
      · exact absurd e.symm q
      · exact strip_in r _ hm

theorem nodup_kp {a : Addr} {k k' : Kp} : ∀ {F : Fs}, (F.map (·.1)).Nodup → (a, k) ∈ F → (a, k') ∈ F → k ≠ k' → False
  | [], _, h, _, _ => by cases h
  | q :: F, hn, h1, h2, hne => by
    rw [List.map_cons, List.nodup_cons] at hn
    rcases List.mem_cons.mp h1 with e1 | h1
    · rcases List.mem_cons.mp h2 with e2 | h2
      · rw [← e1] at e2; injection e2 with _ e2; exact hne e2.symm
      · exact hn.1 (List.mem_map.mpr ⟨_, h2, by rw [← e1]⟩)
    · rcases List.mem_cons.mp h2 with e2 | h2
      · exact hn.1 (List.mem_map.mpr ⟨_, h1, by rw [← e2]⟩)
      · exact nodup_kp hn.2 h1 h2 hne
section
variable {b : Base} {A : Around} {F : Fs} {L : Addr} {σ : Sg} {env : Env}
theorem St.slots {s s' : Shared} (x : St b F L σ s) (fs : List Addr) (hf : ∀ a ∈ fs, a = L ∨ ∃ m, (a, Kp.ns m) ∈ F) (hk : ∀ a o, a ∉ fs → s.heap.get? a = some o → s'.heap.get? a = some o) (hu : s.heap.UpToSlots s'.heap)
    (hg : s'.gens = s.gens) (ho : s'.os = s.os) : St b F L σ s' := by
  have notin : ∀ a, a ≠ L → (∀ m, (a, Kp.ns m) ∉ F) → a ∉ fs := fun a h1 h2 hm => by
    rcases hf a hm with e | ⟨m, e⟩
    · exact h1 e
    · exact h2 m e
  have offb : ∀ a, (∃ o, b.h.get? a = some o) ∨ (∃ c, σ.at_ a = some c) → a ∉ fs := fun a h hm => by
    rcases hf a hm with e | ⟨m, e⟩
    · subst e
      rcases h with ⟨o, h⟩ | ⟨c, h⟩
      · rw [x.offL.1] at h; cases h
      · rw [x.offL.2.1] at h; cases h
    · have := x.offF _ e
      rcases h with ⟨o, h⟩ | ⟨c, h⟩
      · rw [this.1] at h; cases h
      · rw [this.2] at h; cases h
  refine ⟨hu.ns x.ns, fun p hp => ?_, x.nd, fun y o e => hk y o (offb y (.inl ⟨o, e⟩)) (x.keep y o e), fun a c e => (x.cl a c e).same fun o g => hk a o (offb a (.inr ⟨c, e⟩)) g, x.offL, x.offF, x.offC, by rw [hg]; exact x.gens, ho.trans x.os⟩
  obtain ⟨a, k⟩ := p
  have hk2 := x.fr _ hp
  cases k with
  | ns m => exact hu.ns hk2
  | gen i g0 =>
    obtain ⟨o, nm, qn, ho, r⟩ := hk2
    refine ⟨o, nm, qn, hk a o ?_ ho, r⟩
    refine notin a (x.offL.2.2 _ hp) fun m hm => ?_
    exact nodup_kp x.nd hp hm (by rintro ⟨⟩)
  | cl c =>
    refine Cl.At.same (c := c) hk2 fun o g => hk a o ?_ g
    refine notin a (x.offL.2.2 _ hp) fun m hm => ?_
    exact nodup_kp x.nd hp hm (by rintro ⟨⟩)

theorem boot_attr : bootBuiltins "AttributeError" = some (.type "AttributeError") := by decide +kernel
/-- an AttributeError caught: return False -/
theorem caught {s s₁ : Shared} {E : Value → Shared → Prop} {Q : Flow → Shared → Prop} {e : Addr} {outer : List Env} {px p1 p2 ph : Pos} {kk : Nat} (G : Glb b) (y : St b F L σ s) (hfr : A.frames = some (env :: outer)) (hL : env.frame = some L)
    (hfs : ∀ e' ∈ env :: outer, e'.scope.kind ≠ .module ∧ ∃ l, e'.frame = some l ∧ (l = L ∨ ∃ m, (l, Kp.ns m) ∈ F))
    (hx : Heap.NewExcOf s.heap s₁.heap e "AttributeError") (hg : s₁.gens = s.gens) (ho : s₁.os = s.os) (e0 : nsIn (Kb b) mainGlobals "AttributeError" = some none)
    (hq : ∀ s', St b F L σ s' → Q (.ret (.bool false)) s')
    (hge : env.globals = mainGlobals := by with_unfolding_all rfl)
    (hb : env.builtins = builtinsNs := by with_unfolding_all rfl) (hk : env.scope.kind = .function := by with_unfolding_all rfl)
    (hxx : env.kindOf "AttributeError" = some .globalImplicit := by with_unfolding_all rfl) :
    wpAny (model P b.w) A (noteFrame (.ref e) env) (fun _ s₂ => wpAny (model P b.w) A (setFlight (.ref e) none) (fun _ s₃ => wpAny (model P b.w) A (handleBy (.ref e) env [.ExceptHandler (some (.Name "AttributeError" px)) none [.Return (some (.Constant (.bool false) kk p1)) p2] ph]) Q E s₃) E s₂) E s₁ := by
  obtain ⟨ob, vs, he, hcls, hd, h1⟩ := hx.there
  have hsz : 1 < vs.size := (Array.getElem?_eq_some_iff.mp h1).1
  have h0 : vs[0]? = some (vs[0]'(by omega)) := Array.getElem?_eq_getElem (by omega)
  -- the frames' dicts
  have hfl : ∀ a ∈ (env :: outer).filterMap (·.frame), a = L ∨ ∃ m, (a, Kp.ns m) ∈ F := fun a ha => by
    obtain ⟨e', he', hea⟩ := List.mem_filterMap.mp ha
    obtain ⟨_, l, h2, h3⟩ := hfs e' he'
    rw [h2] at hea; cases hea; exact h3
  generalize hfsd : (env :: outer).filterMap (·.frame) = fs at hfl
  have nsat : ∀ a ∈ fs, ∃ m, s.heap.Ns a m := fun a ha => by
    rcases hfl a ha with rfl | ⟨m, hm⟩
    · exact ⟨_, y.ns⟩
    · exact ⟨m, y.fr _ hm⟩
  have stay : (strip fs s.heap).StaysIn s₁.heap := fun a o h => by
    by_cases q : a ∈ fs
    · rw [strip_in fs _ q] at h; cases h
    · rw [strip_not fs _ q] at h; exact hx.keeps a o h
  have hen : (strip fs s.heap).get? e = none := strip_none fs _ hx.new
  have ff : ∀ l : List Env, (∀ e' ∈ l, e'.scope.kind ≠ .module ∧ ∃ l, e'.frame = some l ∧ l ∈ fs) → s₁.heap.FunFrames (strip fs s.heap) l := fun l => by
    induction l with
    | nil => intro _; trivial
    | cons e' l ih =>
      intro h
      obtain ⟨hk1, l1, h2, h3⟩ := h e' (.head _)
      obtain ⟨m, o, es, ep, g1, g2, _⟩ := nsat l1 h3
      exact ⟨hk1, ⟨l1, o, h2, strip_in fs _ h3, hx.keeps _ _ g1, fun vs q => by rw [g2] at q; cases q⟩, ih fun e'' he'' => h e'' (.tail _ he'')⟩
  have ff1 := ff (env :: outer) fun e' he' => by
    obtain ⟨hk1, l1, h2, h3⟩ := hfs e' he'
    exact ⟨hk1, l1, h2, by rw [← hfsd]; exact List.mem_filterMap.mpr ⟨e', he', h2⟩⟩
  have fin : ∀ h', (strip fs s.heap).StaysIn h' → s.heap.UpToSlots h' → ∀ t d, St b F L σ { s₁ with heap := h', toks := t, drawn := d } := fun h' k1 k2 t d =>
    y.slots fs hfl (fun a o hn h => k1 a o (by rw [strip_not fs _ hn]; exact h)) k2 hg ho
  unfold noteFrame
  simp only [hL]
  refine wpAny_bind (wpAny_field he hd h1 ?_)
  rw [if_neg (by decide)]
  refine wpAny_entryW hfr ff1 hL he stay hen hd hsz h0 fun h₂ hN => ?_
  obtain ⟨k1, k2, k3, k4⟩ := hN
  have u1 : s.heap.UpToSlots h₂ := (Heap.UpToSlots.of_keeps hx.keeps).trans k4
  refine wpAny_setFlight_noneW k1 k2 k3 fun h₃ m1 m2 m3 m4 => ?_
  have u2 : s.heap.UpToSlots h₃ := u1.trans fun a o h hn => ⟨o.slots, m4 a o h hn⟩
  refine wpAny_handleBy_builtin (X := "AttributeError") (T := "AttributeError") (b := true) (by rw [isSubtype_type]; kernel_rfl) (by rw [isSubtype_type]; kernel_rfl) sub_AttributeError ?_
  have y3 := fin h₃ m1 u2 s₁.toks s₁.drawn
  obtain ⟨mg, hn1, hv1⟩ := G.glob
  obtain ⟨mb, hn2, hv2⟩ := G.bui
  refine Name_function_global hk hxx (loadGlobal_builtin (mg := mg) (mb := mb) (v := .type "AttributeError") (by rw [hge]; exact hn1.keeps y3.keep) (hv1 _ _ e0) (by rw [hb]; exact hn2.keeps y3.keep) ((hv2 _ (by decide)).trans boot_attr) ⟨rfl, ?_, ?_⟩) (by decide)
  · obtain ⟨oe, _, _, _, _, he3, hc3, _⟩ := m3
    exact ⟨oe, he3, by rw [hc3.1, hcls]⟩
  rw [if_pos rfl]
  refine wpAny_setFlight_noneW m1 m2 m3.at fun h₄ n1 n2 n3 n4 => ?_
  have u3 : s.heap.UpToSlots h₄ := u2.trans fun a o h hn => ⟨o.slots, n4 a o h hn⟩
  refine wpAny_execs_cons (wpAny_Return_some (wpAny_Constant_bool ?_))
  exact hq _ (fin h₄ n1 u3 _ _)
end
end PartC7

section PartC8
open PySem PySem.W PyProof.Rows PySem.Calls
set_option maxRecDepth 100000
set_option maxHeartbeats 400000
set_option linter.unusedVariables false

local macro_rules | `(tactic| k_clsL) => `(tactic| first
  | with_reducible assumption
  | (with_reducible show Sg.m (Sg.setL _ _ _) _ = some _; first | with_reducible exact getL_same | (apply getL_skip; with_unfolding_all decide; k_clsL))
  | (with_reducible show Sg.m (Sg.put _ _ _) _ = some _; apply putM; k_clsL)
  | (with_reducible show Sg.m (Sg.del _ _) _ = some _; apply delM; k_clsL)
  | (with_reducible show Sg.m (Sg.setM _ _) _ = some _; apply setMM; k_clsL)
  | (apply viaM; with_reducible assumption; k_clsL)
  | (apply viaE; with_reducible assumption; k_clsL))
local macro_rules | `(tactic| k_offL) => `(tactic| first
  | with_reducible assumption
  | with_reducible exact Ext.rfl
  | (with_reducible show Ext _ (Sg.setL _ _ _); refine Ext.setL ?_; k_offL)
  | (with_reducible show Ext _ (Sg.put _ _ _); refine Ext.put ?_ (by first | with_reducible assumption | with_reducible exact setA (by with_reducible assumption)); k_offL)
  | (with_reducible show Ext _ (Sg.setM _ _); refine Ext.setM ?_; k_offL)
  | (with_reducible refine Ext.tr (by with_reducible assumption) ?_; k_offL)
  | (with_reducible refine Ext.tr2 (by with_reducible assumption) ?_; k_offL))
local macro_rules | `(tactic| k_places) => `(tactic| first
  | with_reducible assumption
  | with_reducible exact putA_same
  | (with_reducible show Sg.at_ (Sg.setL _ _ _) _ = some _; apply setA; k_places)
  | (with_reducible show Sg.at_ (Sg.setM _ _) _ = some _; apply setMA; k_places)
  | (with_reducible show Sg.at_ (Sg.put _ _ _) _ = some _; apply putA_new; with_reducible assumption; k_places)
  | (apply ESt.at_; with_reducible assumption; k_places)
  | (apply Ext.at'; with_reducible assumption; k_places))
local macro_rules | `(tactic| k_subL) => `(tactic| first
  | (with_reducible show W _ _ _ _ (spliced (backTo _ (starEach [] _))) _ _; refine w_items0 ?_)
  | (with_reducible show W _ _ _ _ (spliced (backTo _ (starEach (_ :: _) _))) _ _; refine w_items ?_)
  | (with_reducible show W _ _ _ _ (eval (Expr.Name _ _) _) _ _; first | refine w_local (by with_unfolding_all rfl) (by k_clsL) ?_ | refine w_cell (by with_unfolding_all rfl) (by k_places) ?_ | (with_reducible show W _ _ _ _ (eval (Expr.Name ("Tree" : Str) _) _) _ _; refine w_glob (v := .ref 142) (by assumption) (by kernel_rfl) ?_) | (with_reducible show W _ _ _ _ (eval (Expr.Name ("Token" : Str) _) _) _ _; refine w_glob (v := .ref 45) (by assumption) (by kernel_rfl) ?_))
  | (with_reducible show W _ _ _ _ (eval (Expr.Call (Expr.Name ("isinstance" : Str) _) _ [] _) _) _ _; refine w_callB (n := "isinstance") (by assumption) boot_isi (by kernel_rfl) ?_)
  | (with_reducible show W _ _ _ _ (eval (Expr.Call (Expr.Name ("len" : Str) _) _ [] _) _) _ _; refine w_callB (n := "len") (by assumption) boot_len (by kernel_rfl) ?_)
  | (with_reducible show W _ _ _ _ (eval (Expr.Call (Expr.Name ("min" : Str) _) _ [] _) _) _ _; refine w_callB (n := "min") (by assumption) boot_min (by kernel_rfl) ?_)
  | (with_reducible show W _ _ _ _ (eval (Expr.Call (Expr.Name ("range" : Str) _) _ [] _) _) _ _; refine w_callT (n := "range") (by assumption) boot_range (by kernel_rfl) ?_)
  | (with_reducible show W _ _ _ _ (eval (Expr.Call (Expr.Name ("str" : Str) _) _ [] _) _) _ _; refine w_callT (n := "str") (by assumption) boot_str (by kernel_rfl) ?_)
  | (with_reducible show W _ _ _ _ (eval (Expr.Call (Expr.Name ("list" : Str) _) _ [] _) _) _ _; refine w_callT (n := "list") (by assumption) boot_list (by kernel_rfl) ?_)
  | (with_reducible show W _ _ _ _ (eval (Expr.Call (Expr.Name ("reversed" : Str) _) _ [] _) _) _ _; refine w_callT (n := "reversed") (by assumption) boot_rev (by kernel_rfl) ?_)
  | (with_reducible show W _ _ _ _ (eval (Expr.Call (Expr.Name ("filter" : Str) _) _ [] _) _) _ _; refine w_callT (n := "filter") (by assumption) boot_filter (by kernel_rfl) ?_)
  | (with_reducible show W _ _ _ _ (call (.builtin "len") [.ref _]) _ _; (refine w_len (by k_places) ?_ fun _ => ?_); rotate_left)
  | (with_reducible show W _ _ _ _ (binaryOp .Add (.int _ _) (.int _ _)) _ _; refine w_addI fun _ => ?_)
  | (with_reducible show W _ _ _ _ (binaryOp .Sub (.int _ _) (.int _ _)) _ _; refine w_subI fun _ => ?_)
  | (with_reducible show W _ _ _ _ (compareOp .Eq (.int _ _) (.int _ _)) _ _; refine w_eqI ?_)
  | (with_reducible show W _ _ _ _ (compareOp .NotEq (.int _ _) (.int _ _)) _ _; refine w_neI ?_)
  | (with_reducible show W _ _ _ _ (compareOp .Lt (.int _ _) (.int _ _)) _ _; refine w_ltI ?_)
  | (with_reducible show W _ _ _ _ (compareOp .Eq (.str _ _) (.str _ _)) _ _; refine w_eqS ?_)
  | (with_reducible show W _ _ _ _ (compareOp .NotEq (.bool _) (.bool _)) _ _; refine w_neB ?_)
  | (with_reducible show W _ _ _ _ (unaryOp .USub (.int _ _)) _ _; refine w_negI fun _ => ?_)
  | (with_reducible show W _ _ _ _ (unaryOp .Not _) _ _; refine w_notv ?_)
  | (with_reducible show W _ _ _ _ (eval (Expr.Attribute _ _ _) _) _ _; refine w_attr ?_)
  | (with_reducible show W _ _ _ _ (eval (Expr.List _ _) _) _ _; refine w_list ?_)
  | (with_reducible show W _ _ _ _ (eval (Expr.Tuple _ _ _) _) _ _; refine w_tuple ?_)
  | (with_reducible show W _ _ _ _ (eval (Expr.BinOp _ _ _ _) _) _ _; refine w_binop ?_)
  | (with_reducible show W _ _ _ _ (eval (Expr.Compare _ [_] [_] _) _) _ _; refine w_cmp ?_)
  | (with_reducible show W _ _ _ _ (eval (Expr.IfExp _ _ _ _) _) _ _; refine w_ifexp ?_)
  | (with_reducible show W _ _ _ _ (eval (Expr.Subscript _ _ _) _) _ _; refine w_sub ?_)
  | (with_reducible show W _ _ _ _ (eval (Expr.UnaryOp _ _ _) _) _ _; refine w_unop ?_)
  | (with_reducible show W _ _ _ _ (eval (Expr.Constant .none _ _) _) _ _; refine w_none ?_)
  | (with_reducible show W _ _ _ _ (eval (Expr.Constant (.bool _) _ _) _) _ _; refine w_tf ?_)
  | (with_reducible show W _ _ _ _ (eval (Expr.Constant (.int _) _ _) _) _ _; refine w_int ?_; intro _)
  | (with_reducible show W _ _ _ _ (eval (Expr.Constant (.str _) _ _) _) _ _; refine w_str ?_; intro _)
  | (with_reducible show W _ _ _ _ (execs [] _) _ _; refine w_nil ?_)
  | (with_reducible show W _ _ _ _ (execs (Stmt.Assign [Expr.Name _ _] (Expr.ListComp _ [Comprehension.mk _ _ _ _] _ _) _ :: _) _) _ _; refine w_cons (w_assignComp ?_))
  | (with_reducible show W _ _ _ _ (execs (Stmt.Assign [Expr.Name _ _] _ _ :: _) _) _ _; refine w_consA ?_)
  | (with_reducible show W _ _ _ _ (execs (Stmt.Assign [Expr.Attribute _ _ _] _ _ :: _) _) _ _; refine w_consAttr ?_)
  | (with_reducible show W _ _ _ _ (execs (Stmt.Assign [Expr.Subscript _ _ _] _ _ :: _) _) _ _; refine w_consSub ?_)
  | (with_reducible show W _ _ _ _ (execs (Stmt.If _ _ [] _ :: _) _) _ _; refine w_consIf ?_)
  | (with_reducible show W _ _ _ _ (execs (Stmt.If _ _ _ _ :: _) _) _ _; refine w_consElse ?_)
  | (with_reducible show W _ _ _ _ (execs (Stmt.Return (some _) _ :: _) _) _ _; refine w_consRet ?_)
  | (with_reducible show W _ _ _ _ (execs (Stmt.Break _ :: _) _) _ _; refine w_consBrk ?_)
  | (with_reducible show W _ _ _ _ (execs (Stmt.Continue _ :: _) _) _ _; refine w_consCont ?_)
  | (with_reducible show W _ _ _ _ (execs (Stmt.Expr (Expr.Call (Expr.Attribute _ _ _) [_] [] _) _ :: _) _) _ _; refine w_consApp ?_)
  | (with_reducible show W _ _ _ _ (execs (Stmt.Expr _ _ :: _) _) _ _; refine w_consE ?_)
  | (with_reducible show W _ _ _ _ (isTrue (Expr.UnaryOp .Not _ _) _ _) _ _; refine w_not ?_)
  | (with_reducible show W _ _ _ _ (isTrue (Expr.BoolOp _ _ _) _ _) _ _; refine w_bool ?_)
  | (with_reducible show W _ _ _ _ (allTrue .And [] _) _ _; refine w_andNil ?_)
  | (with_reducible show W _ _ _ _ (allTrue .Or [] _) _ _; refine w_orNil ?_)
  | (with_reducible show W _ _ _ _ (allTrue .And (_ :: _) _) _ _; refine w_and ?_)
  | (with_reducible show W _ _ _ _ (allTrue .Or (_ :: _) _) _ _; refine w_or ?_)
  | (with_reducible show W _ _ _ _ (isTrue (Expr.Compare _ [_] [_] _) _ _) _ _; refine w_tcmp ?_)
  | (with_reducible show W _ _ _ _ (isTrue _ _ _) _ _; refine w_tval ?_)
  | (with_reducible show W _ _ _ _ (storeName _ _ _) _ _; first | refine w_storeL (by with_unfolding_all rfl) ?_ | refine w_storeC (by with_unfolding_all rfl) (by k_places) ?_)
  | (with_reducible show W _ _ _ _ (tests [_] _) _ _; refine w_tests1 ?_)
  | (with_reducible show W _ _ _ _ (tests [] _) _ _; refine w_tests0 ?_)
  | (with_reducible show W _ _ _ _ (eval (Expr.ListComp _ [Comprehension.mk _ _ _ _] _ _) _) _ _; refine w_listcomp ?_)
  | (with_reducible show W _ _ _ _ (truthy (.bool _)) _ _; refine w_truthyB ?_)
  | (with_reducible show thenK _ _ Flow.next _; refine thenK_next ?_)
  | (with_reducible show thenK _ _ Flow.brk _; refine thenK_brk ?_)
  | (with_reducible show thenK _ _ Flow.cont _; refine thenK_cont ?_)
  | (with_reducible show thenK _ _ (Flow.ret _) _; refine thenK_ret ?_)
  | (with_reducible show turnK _ _ _ Flow.next _; refine turnK_next ?_)
  | (with_reducible show turnK _ _ _ Flow.brk _; refine turnK_brk ?_)
  | (with_reducible show turnK _ _ _ Flow.cont _; refine turnK_cont ?_)
  | (with_reducible show turnK _ _ _ (Flow.ret _) _; refine turnK_ret ?_))

theorem c_eqTok {b : Base} (G : Glb b) {A : Around} {F : Fs} {L : Addr} {σ : Sg} {n : Nat} {x y d : Addr} {k v : Str} {nd : Nd} (R : Rm A (n + 1)) (hx : NdAt σ x (.tok d k v)) (hy : NdAt σ y nd) :
    WC b A F L (.call (.ref 35) ⟨[.ref x, .ref y], []⟩) σ fun r σ' => r = .bool (match nd with | .tok _ k' v' => k == k' && v == v' | _ => false) ∧ ESt σ σ' := by
  refine wc_fn1 (fd := fTokEq.1) (binds := [("self", Value.ref x), ("other", .ref y)]) G (fTokEq.2 _) (by kernel_rfl) rfl R.dep rfl fun L' => ?_
  show W _ _ _ _ _ _ _
  repeat k_subL
  refine w_and2 ?_
  repeat k_subL
  refine w_isTok (nd := nd) G (hy.ext ?_) ?_
  · k_offL
  repeat k_subL
  refine ⟨fun hb => ?_, fun hb => ?_⟩
  · cases nd with
    | node => cases hb
    | tok d' k' v' =>
      refine w_and2 ?_
      repeat k_subL
      refine w_type G (hx.ext ?_) fun t1 => ?_
      · k_offL
      repeat k_subL
      refine w_type G (hy.ext ?_) fun t2 => ?_
      · k_offL
      repeat k_subL
      refine ⟨fun hb2 => ?_, fun hb2 => ?_⟩
      · refine w_and1 ?_
        repeat k_subL
        refine w_value G (hx.ext ?_) fun t1 => ?_
        · k_offL
        repeat k_subL
        refine w_value G (hy.ext ?_) fun t2 => ?_
        · k_offL
        repeat k_subL
        refine ⟨?_, (show Ext σ _ by k_offL).setM, rfl⟩
        simp [retOf, hb2]
      · refine ⟨?_, (show Ext σ _ by k_offL).setM, rfl⟩
        simp only [retOf]
        rw [hb2, Bool.false_and]
  · rw [hb]
    refine ⟨?_, (show Ext σ _ by k_offL).setM, rfl⟩
    cases nd with
    | node => rfl
    | tok => cases hb

/-- a tree and what has no data -/
theorem c_eqRaise {b : Base} (G : Glb b) {A : Around} {F : Fs} {L : Addr} {σ : Sg} {n : Nat} {x d l : Addr} {nm : Str} {ks : List Addr} {ov : Value} (R : Rm A (n + 1)) (hF : Frs A F L) (hx : NdAt σ x (.node d l nm ks))
    (hmiss : ∀ (A' : Around) F' L' τ s E Q, A'.handled = none → Ext σ τ → St b F' L' τ s → (∀ h' tk e, Heap.NewExcOf s.heap h' e "AttributeError" → E (.ref e) { s with heap := h', toks := tk }) → wpAny (model P b.w) A' (getAttr ov "data" true) Q E s) :
    WC b A F L (.call (.ref 71) ⟨[.ref x, ov], []⟩) σ fun r σ' => r = .bool false ∧ ESt σ σ' := by
  refine wc_fn1 (fd := fEq.1) (binds := [("self", Value.ref x), ("other", ov)]) G (fEq.2 _) (by kernel_rfl) rfl R.dep rfl fun L' => ?_
  show W _ _ _ _ _ _ _
  have hF2 := hF.deeper (L' := L') (f := 71) (m := σ.m) (fd := fEq.1) (cs := fEq.1.closure) rfl
  obtain ⟨envs, he, hfs⟩ := hF
  have hfr : (A.deeper (fnEnv fEq.1 L' fEq.1.closure 71)).frames = some (fnEnv fEq.1 L' fEq.1.closure 71 :: envs) := by unfold Around.deeper; simp [he, fnEnv, newEnv]
  obtain ⟨envs2, he2, hfs2⟩ := hF2
  rw [hfr] at he2; cases he2
  intro s E z
  refine wpAny_execs_cons (wpAny_Try_except (wpAny_execs_cons (wpAny_Return_some (BoolOp_and (wpAny_Compare1 ?_ (by with_unfolding_all rfl))))))
  have hE0 : Ext σ (((σ.setM fun x => none).setL (Str.ofString "self") (Value.ref x)).setL (Str.ofString "other") ov) := by k_offL
  have hm : (((σ.setM fun x => none).setL (Str.ofString "self") (Value.ref x)).setL (Str.ofString "other") ov).m "other" = some ov := getL_same
  have hms : (((σ.setM fun x => none).setL (Str.ofString "self") (Value.ref x)).setL (Str.ofString "other") ov).m "self" = some (.ref x) := by k_clsL
  generalize (((σ.setM fun x => none).setL (Str.ofString "self") (Value.ref x)).setL (Str.ofString "other") ov) = τ at z hE0 hm hms
  refine wpAny_mono (w_attr (Q := fun _ τ' => τ' = τ) (w_local (x := "self") (by with_unfolding_all rfl) hms (w_data G (hx.ext hE0) fun t => rfl)) (by with_unfolding_all rfl) s _ z) (fun v s1 ⟨τ1, z1, e⟩ => ?_) fun _ _ e => e
  subst e
  refine Attribute_any_ ?_ (by with_unfolding_all rfl)
  refine wpAny_mono (w_local (x := "other") (Q := fun v τ' => v = ov ∧ τ' = τ1) (by with_unfolding_all rfl) hm ⟨rfl, rfl⟩ (by with_unfolding_all rfl) (by with_unfolding_all rfl) (by decide) s1 _ z1) (fun v' s2 ⟨τ2, z2, e1, e2⟩ => ?_) fun _ _ e => e
  subst e1 e2
  refine hmiss _ _ _ _ _ _ _ R.deeper.hh hE0 z2 fun h' tk e hnew => ?_
  refine caught (s₁ := { s2 with heap := h', toks := tk }) G z2 hfr rfl hfs2 hnew rfl rfl (by kernel_rfl) fun s' z' => ?_
  exact ⟨_, z', rfl, hE0.setM, rfl⟩

theorem looksT {b : Base} {F : Fs} {L : Addr} {σ : Sg} {y : Addr} {nd : Nd} (h : NdAt σ y nd) : ∃ tb, (∀ s, St b F L σ s → Looks (model P b.w) s.heap (typeOf (.ref y)) tb) ∧ (tb = .ref 142 ∨ tb = .ref 45) := by
  cases nd with
  | node d l nm ks => obtain ⟨⟨t, I⟩, _⟩ := h; exact ⟨_, looksI I, .inl rfl⟩
  | tok d k v => obtain ⟨t, u, I⟩ := h; exact ⟨_, looksI I, .inr rfl⟩

/-- a token's data is missed -/
theorem miss_tok {b : Base} (G : Glb b) {σ : Sg} {y d : Addr} {k v : Str} (h : NdAt σ y (.tok d k v)) : ∀ (A' : Around) F' L' τ s E Q, A'.handled = none → Ext σ τ → St b F' L' τ s → (∀ h' tk e, Heap.NewExcOf s.heap h' e "AttributeError" → E (.ref e) { s with heap := h', toks := tk }) → wpAny (model P b.w) A' (getAttr (.ref y) "data" true) Q E s := by
  intro A' F' L' τ s E Q hh hE z hq
  obtain ⟨t, u, I⟩ := h.ext hE
  obtain ⟨od, I', l, n, rfl, he⟩ := z.inst I
  refine get_missing (G.k.keeps z.keep) I' (by kernel_rfl) ?_ (by kernel_rfl) hh (by decide +kernel) hq
  have look : lookIn "data" (dictOf l n) = some none := by rw [he.look]; rfl
  unfold findObj
  obtain ⟨cd, hc, hd⟩ := any_some (cls45 b).dict
  have ha : findIn (Kb b) (.ref 45) "data" = some none := by kernel_rfl
  have hn : copiedNames.contains ("data" : Str) = false := by decide +kernel
  rw [hc, ha]
  simp only [Option.bind_some]
  unfold PySem.W.ownOf
  rw [hd]
  simp only [if_true, look, Option.bind_some, hn, Bool.false_and]
  rfl
end PartC8

section PartC9
open PySem PySem.W PyProof.Rows PySem.Calls
set_option maxRecDepth 100000
set_option maxHeartbeats 400000
set_option linter.unusedVariables false

theorem Rm.deeper1 {A : Around} {n : Nat} {e : Env} (x : Rm A (n + 1)) : Rm (A.deeper e).in1 n := ⟨((x.r.le (n' := n + 6) (u' := 8 * n + 205) (by omega) (by omega)).deeper.le (n' := n + 5) (u' := 8 * n + 201) (by omega) (by omega)).in1⟩
theorem Frs.in1 {A : Around} {F : Fs} {L : Addr} (h : Frs A F L) : Frs A.in1 F L := h
local macro_rules | `(tactic| k_clsL) => `(tactic| first
  | with_reducible assumption
  | (with_reducible show Sg.m (Sg.setL _ _ _) _ = some _; first | with_reducible exact getL_same | (apply getL_skip; with_unfolding_all decide; k_clsL))
  | (with_reducible show Sg.m (Sg.put _ _ _) _ = some _; apply putM; k_clsL)
  | (with_reducible show Sg.m (Sg.del _ _) _ = some _; apply delM; k_clsL)
  | (with_reducible show Sg.m (Sg.setM _ _) _ = some _; apply setMM; k_clsL)
  | (apply viaM; with_reducible assumption; k_clsL)
  | (apply viaE; with_reducible assumption; k_clsL))
local macro_rules | `(tactic| k_offL) => `(tactic| first
  | with_reducible assumption
  | with_reducible exact Ext.rfl
  | (with_reducible show Ext _ (Sg.setL _ _ _); refine Ext.setL ?_; k_offL)
  | (with_reducible show Ext _ (Sg.put _ _ _); refine Ext.put ?_ (by first | with_reducible assumption | with_reducible exact setA (by with_reducible assumption)); k_offL)
  | (with_reducible show Ext _ (Sg.setM _ _); refine Ext.setM ?_; k_offL)
  | (with_reducible refine Ext.tr (by with_reducible assumption) ?_; k_offL)
  | (with_reducible refine Ext.tr2 (by with_reducible assumption) ?_; k_offL))
local macro_rules | `(tactic| k_places) => `(tactic| first
  | with_reducible assumption
  | with_reducible exact putA_same
  | (with_reducible show Sg.at_ (Sg.setL _ _ _) _ = some _; apply setA; k_places)
  | (with_reducible show Sg.at_ (Sg.setM _ _) _ = some _; apply setMA; k_places)
  | (with_reducible show Sg.at_ (Sg.put _ _ _) _ = some _; apply putA_new; with_reducible assumption; k_places)
  | (apply ESt.at_; with_reducible assumption; k_places)
  | (apply Ext.at'; with_reducible assumption; k_places))
local macro_rules | `(tactic| k_subL) => `(tactic| first
  | (with_reducible show W _ _ _ _ (spliced (backTo _ (starEach [] _))) _ _; refine w_items0 ?_)
  | (with_reducible show W _ _ _ _ (spliced (backTo _ (starEach (_ :: _) _))) _ _; refine w_items ?_)
  | (with_reducible show W _ _ _ _ (eval (Expr.Name _ _) _) _ _; first | refine w_local (by with_unfolding_all rfl) (by k_clsL) ?_ | refine w_cell (by with_unfolding_all rfl) (by k_places) ?_ | (with_reducible show W _ _ _ _ (eval (Expr.Name ("Tree" : Str) _) _) _ _; refine w_glob (v := .ref 142) (by assumption) (by kernel_rfl) ?_) | (with_reducible show W _ _ _ _ (eval (Expr.Name ("Token" : Str) _) _) _ _; refine w_glob (v := .ref 45) (by assumption) (by kernel_rfl) ?_))
  | (with_reducible show W _ _ _ _ (eval (Expr.Call (Expr.Name ("isinstance" : Str) _) _ [] _) _) _ _; refine w_callB (n := "isinstance") (by assumption) boot_isi (by kernel_rfl) ?_)
  | (with_reducible show W _ _ _ _ (eval (Expr.Call (Expr.Name ("len" : Str) _) _ [] _) _) _ _; refine w_callB (n := "len") (by assumption) boot_len (by kernel_rfl) ?_)
  | (with_reducible show W _ _ _ _ (eval (Expr.Call (Expr.Name ("min" : Str) _) _ [] _) _) _ _; refine w_callB (n := "min") (by assumption) boot_min (by kernel_rfl) ?_)
  | (with_reducible show W _ _ _ _ (eval (Expr.Call (Expr.Name ("range" : Str) _) _ [] _) _) _ _; refine w_callT (n := "range") (by assumption) boot_range (by kernel_rfl) ?_)
  | (with_reducible show W _ _ _ _ (eval (Expr.Call (Expr.Name ("str" : Str) _) _ [] _) _) _ _; refine w_callT (n := "str") (by assumption) boot_str (by kernel_rfl) ?_)
  | (with_reducible show W _ _ _ _ (eval (Expr.Call (Expr.Name ("list" : Str) _) _ [] _) _) _ _; refine w_callT (n := "list") (by assumption) boot_list (by kernel_rfl) ?_)
  | (with_reducible show W _ _ _ _ (eval (Expr.Call (Expr.Name ("reversed" : Str) _) _ [] _) _) _ _; refine w_callT (n := "reversed") (by assumption) boot_rev (by kernel_rfl) ?_)
  | (with_reducible show W _ _ _ _ (eval (Expr.Call (Expr.Name ("filter" : Str) _) _ [] _) _) _ _; refine w_callT (n := "filter") (by assumption) boot_filter (by kernel_rfl) ?_)
  | (with_reducible show W _ _ _ _ (call (.builtin "len") [.ref _]) _ _; (refine w_len (by k_places) ?_ fun _ => ?_); rotate_left)
  | (with_reducible show W _ _ _ _ (binaryOp .Add (.int _ _) (.int _ _)) _ _; refine w_addI fun _ => ?_)
  | (with_reducible show W _ _ _ _ (binaryOp .Sub (.int _ _) (.int _ _)) _ _; refine w_subI fun _ => ?_)
  | (with_reducible show W _ _ _ _ (compareOp .Eq (.int _ _) (.int _ _)) _ _; refine w_eqI ?_)
  | (with_reducible show W _ _ _ _ (compareOp .NotEq (.int _ _) (.int _ _)) _ _; refine w_neI ?_)
  | (with_reducible show W _ _ _ _ (compareOp .Lt (.int _ _) (.int _ _)) _ _; refine w_ltI ?_)
  | (with_reducible show W _ _ _ _ (compareOp .Eq (.str _ _) (.str _ _)) _ _; refine w_eqS ?_)
  | (with_reducible show W _ _ _ _ (compareOp .NotEq (.bool _) (.bool _)) _ _; refine w_neB ?_)
  | (with_reducible show W _ _ _ _ (unaryOp .USub (.int _ _)) _ _; refine w_negI fun _ => ?_)
  | (with_reducible show W _ _ _ _ (unaryOp .Not _) _ _; refine w_notv ?_)
  | (with_reducible show W _ _ _ _ (eval (Expr.Attribute _ _ _) _) _ _; refine w_attr ?_)
  | (with_reducible show W _ _ _ _ (eval (Expr.List _ _) _) _ _; refine w_list ?_)
  | (with_reducible show W _ _ _ _ (eval (Expr.Tuple _ _ _) _) _ _; refine w_tuple ?_)
  | (with_reducible show W _ _ _ _ (eval (Expr.BinOp _ _ _ _) _) _ _; refine w_binop ?_)
  | (with_reducible show W _ _ _ _ (eval (Expr.Compare _ [_] [_] _) _) _ _; refine w_cmp ?_)
  | (with_reducible show W _ _ _ _ (eval (Expr.IfExp _ _ _ _) _) _ _; refine w_ifexp ?_)
  | (with_reducible show W _ _ _ _ (eval (Expr.Subscript _ _ _) _) _ _; refine w_sub ?_)
  | (with_reducible show W _ _ _ _ (eval (Expr.UnaryOp _ _ _) _) _ _; refine w_unop ?_)
  | (with_reducible show W _ _ _ _ (eval (Expr.Constant .none _ _) _) _ _; refine w_none ?_)
  | (with_reducible show W _ _ _ _ (eval (Expr.Constant (.bool _) _ _) _) _ _; refine w_tf ?_)
  | (with_reducible show W _ _ _ _ (eval (Expr.Constant (.int _) _ _) _) _ _; refine w_int ?_; intro _)
  | (with_reducible show W _ _ _ _ (eval (Expr.Constant (.str _) _ _) _) _ _; refine w_str ?_; intro _)
  | (with_reducible show W _ _ _ _ (execs [] _) _ _; refine w_nil ?_)
  | (with_reducible show W _ _ _ _ (execs (Stmt.Assign [Expr.Name _ _] (Expr.ListComp _ [Comprehension.mk _ _ _ _] _ _) _ :: _) _) _ _; refine w_cons (w_assignComp ?_))
  | (with_reducible show W _ _ _ _ (execs (Stmt.Assign [Expr.Name _ _] _ _ :: _) _) _ _; refine w_consA ?_)
  | (with_reducible show W _ _ _ _ (execs (Stmt.Assign [Expr.Attribute _ _ _] _ _ :: _) _) _ _; refine w_consAttr ?_)
  | (with_reducible show W _ _ _ _ (execs (Stmt.Assign [Expr.Subscript _ _ _] _ _ :: _) _) _ _; refine w_consSub ?_)
  | (with_reducible show W _ _ _ _ (execs (Stmt.If _ _ [] _ :: _) _) _ _; refine w_consIf ?_)
  | (with_reducible show W _ _ _ _ (execs (Stmt.If _ _ _ _ :: _) _) _ _; refine w_consElse ?_)
  | (with_reducible show W _ _ _ _ (execs (Stmt.Return (some _) _ :: _) _) _ _; refine w_consRet ?_)
  | (with_reducible show W _ _ _ _ (execs (Stmt.Break _ :: _) _) _ _; refine w_consBrk ?_)
  | (with_reducible show W _ _ _ _ (execs (Stmt.Continue _ :: _) _) _ _; refine w_consCont ?_)
  | (with_reducible show W _ _ _ _ (execs (Stmt.Expr (Expr.Call (Expr.Attribute _ _ _) [_] [] _) _ :: _) _) _ _; refine w_consApp ?_)
  | (with_reducible show W _ _ _ _ (execs (Stmt.Expr _ _ :: _) _) _ _; refine w_consE ?_)
  | (with_reducible show W _ _ _ _ (isTrue (Expr.UnaryOp .Not _ _) _ _) _ _; refine w_not ?_)
  | (with_reducible show W _ _ _ _ (isTrue (Expr.BoolOp _ _ _) _ _) _ _; refine w_bool ?_)
  | (with_reducible show W _ _ _ _ (allTrue .And [] _) _ _; refine w_andNil ?_)
  | (with_reducible show W _ _ _ _ (allTrue .Or [] _) _ _; refine w_orNil ?_)
  | (with_reducible show W _ _ _ _ (allTrue .And (_ :: _) _) _ _; refine w_and ?_)
  | (with_reducible show W _ _ _ _ (allTrue .Or (_ :: _) _) _ _; refine w_or ?_)
  | (with_reducible show W _ _ _ _ (isTrue (Expr.Compare _ [_] [_] _) _ _) _ _; refine w_tcmp ?_)
  | (with_reducible show W _ _ _ _ (isTrue _ _ _) _ _; refine w_tval ?_)
  | (with_reducible show W _ _ _ _ (storeName _ _ _) _ _; first | refine w_storeL (by with_unfolding_all rfl) ?_ | refine w_storeC (by with_unfolding_all rfl) (by k_places) ?_)
  | (with_reducible show W _ _ _ _ (tests [_] _) _ _; refine w_tests1 ?_)
  | (with_reducible show W _ _ _ _ (tests [] _) _ _; refine w_tests0 ?_)
  | (with_reducible show W _ _ _ _ (eval (Expr.ListComp _ [Comprehension.mk _ _ _ _] _ _) _) _ _; refine w_listcomp ?_)
  | (with_reducible show W _ _ _ _ (truthy (.bool _)) _ _; refine w_truthyB ?_)
  | (with_reducible show thenK _ _ Flow.next _; refine thenK_next ?_)
  | (with_reducible show thenK _ _ Flow.brk _; refine thenK_brk ?_)
  | (with_reducible show thenK _ _ Flow.cont _; refine thenK_cont ?_)
  | (with_reducible show thenK _ _ (Flow.ret _) _; refine thenK_ret ?_)
  | (with_reducible show turnK _ _ _ Flow.next _; refine turnK_next ?_)
  | (with_reducible show turnK _ _ _ Flow.brk _; refine turnK_brk ?_)
  | (with_reducible show turnK _ _ _ Flow.cont _; refine turnK_cont ?_)
  | (with_reducible show turnK _ _ _ (Flow.ret _) _; refine turnK_ret ?_))

theorem allZ_range {f : Addr → Addr → Bool} : ∀ {xs ys : List Addr}, xs.length = ys.length → (List.range xs.length).all (fun i => f (xs.getD i 0) (ys.getD i 0)) = allZ f xs ys
  | [], [], _ => rfl
  | x :: xs, y :: ys, h => by
    have h' : xs.length = ys.length := by simpa using h
    rw [List.length_cons, List.range_succ_eq_map, List.all_cons, List.all_map]
    show (f x y && _) = (f x y && _)
    congr 1
    exact allZ_range h'
  | [], _ :: _, h => by simp at h
  | _ :: _, [], h => by simp at h
theorem allZ_len {f : Addr → Addr → Bool} : ∀ {xs ys : List Addr}, xs.length ≠ ys.length → allZ f xs ys = false
  | [], [], h => absurd rfl h
  | [], _ :: _, _ => rfl
  | _ :: _, [], _ => rfl
  | x :: xs, y :: ys, h => by unfold allZ; rw [allZ_len (fun e => h (by simp [e])), Bool.and_false]

/-- the compare of two things -/
theorem rich_of {b : Base} (G : Glb b) {A : Around} {F : Fs} {L : Addr} {σ : Sg} {x y : Addr} {nx ny : Nd} {c : Bool} (hu : A.units < cLine) (hx : NdAt σ x nx) (hy : NdAt σ y ny)
    (h : WC b A F L (.call (.ref (if nx.isN then 71 else 35)) ⟨[.ref x, .ref y], []⟩) σ fun r σ' => r = .bool c ∧ ESt σ σ') : W b A F L (richCompare .Eq (.ref x) (.ref y)) σ fun r σ' => r = .bool c ∧ ESt σ σ' := by
  obtain ⟨tb, hb, ht⟩ := looksT (b := b) (F := F) (L := L) hy
  cases nx with
  | node d l nm ks =>
    obtain ⟨⟨t, I⟩, _⟩ := hx
    refine w_rich (f := 71) G I hu hb ?_ (by kernel_rfl) (by kernel_rfl) (W.mono (WC.call h) fun v σ' ⟨e, hE⟩ => ⟨by rw [e]; exact fun q => (nomatch q), e, hE⟩)
    rcases ht with rfl | rfl
    · kernel_rfl
    · kernel_rfl
  | tok d k v =>
    obtain ⟨t, u, I⟩ := hx
    refine w_rich (f := 35) G I hu hb ?_ (by kernel_rfl) (by kernel_rfl) (W.mono (WC.call h) fun v σ' ⟨e, hE⟩ => ⟨by rw [e]; exact fun q => (nomatch q), e, hE⟩)
    rcases ht with rfl | rfl
    · kernel_rfl
    · kernel_rfl

theorem c_eq {b : Base} (G : Glb b) (g h : Gf) : ∀ n A F L σ x y nx ny, Gr σ g → Gr σ h → Dp g n x → Dp h n y → g x = some nx → h y = some ny → Rm A (n + 1) → Frs A F L → (∀ p d l nm ks, g p = some (.node d l nm ks) → ks.length ≤ 2 ^ 20) → (∀ p d l nm ks, h p = some (.node d l nm ks) → ks.length ≤ 2 ^ 20) →
    WC b A F L (.call (.ref (if nx.isN then 71 else 35)) ⟨[.ref x, .ref y], []⟩) σ fun r σ' => r = .bool (eqv g h n x y) ∧ ESt σ σ' := by
  intro n
  induction n with
  | zero =>
    intro A F L σ x y nx ny hG hH hDx hDy ex ey R hF hl1 hl2
    obtain ⟨d, k, v, e⟩ := hDx
    rw [e] at ex; cases ex
    obtain ⟨d', k', v', e'⟩ := hDy
    rw [e'] at ey; cases ey
    rw [eqv_tok e e']
    exact c_eqTok G R (hG _ _ e) (hH _ _ e')
  | succ n ih =>
    intro A F L σ x y nx ny hG hH hDx hDy ex ey R hF hl1 hl2
    cases nx with
    | tok d k v =>
      refine WC.mono (c_eqTok G R (hG _ _ ex) (hH _ _ ey)) fun r σ' ⟨hr, hE⟩ => ⟨?_, hE⟩
      rw [hr]
      cases ny with
      | node d' l' nm' ks' => rw [eqv_tn ex ey]
      | tok d' k' v' => rw [eqv_tok ex ey]
    | node d l nm ks =>
      cases ny with
      | tok d' k' v' =>
        rw [eqv_nt ex ey]
        exact c_eqRaise G R hF (hG _ _ ex) (miss_tok G (hH _ _ ey))
      | node d' l' nm' ks' =>
        have hx := hG _ _ ex
        have hy := hH _ _ ey
        unfold Dp at hDx hDy
        rw [ex] at hDx; rw [ey] at hDy
        have heq : eqv g h (n + 1) x y = (nm == nm' && allZ (eqv g h n) ks ks') := by unfold eqv; rw [ex, ey]
        rw [heq]
        show WC b A F L (.call (.ref 71) ⟨[.ref x, .ref y], []⟩) σ _
        refine wc_fn1 (fd := fEq.1) (binds := [("self", Value.ref x), ("other", .ref y)]) G (fEq.2 _) (by kernel_rfl) rfl R.dep rfl fun L' => ?_
        show W _ _ _ _ _ _ _
        have hF2 := hF.deeper (L' := L') (f := 71) (m := σ.m) (fd := fEq.1) (cs := fEq.1.closure) rfl
        refine w_try ?_
        repeat k_subL
        refine w_and2 ?_
        repeat k_subL
        refine w_data G (hx.ext ?_) fun t1 => ?_
        · k_offL
        repeat k_subL
        refine w_data G (hy.ext ?_) fun t2 => ?_
        · k_offL
        repeat k_subL
        refine ⟨fun hb => ?_, fun hb => ?_⟩
        · refine w_and1 ?_
          repeat k_subL
          refine w_children G (hx.ext ?_) ?_
          · k_offL
          repeat k_subL
          refine w_children G (hy.ext ?_) ?_
          · k_offL
          refine w_eqL (xs := ks.map .ref) (ys := ks'.map .ref) (e := fun i => eqv g h n (ks.getD i 0) (ks'.getD i 0)) (by have := R.deeper (e := fnEnv fEq.1 L' fEq.1.closure 71) |>.r.units; omega) hx.2 hy.2 (fun hne => ?_) (fun hlen i u v τ hu hv hE => ?_) fun hlen τ hE => ?_
          · refine ⟨_, rfl, ?_, (show Ext σ _ by k_offL).setM, rfl⟩
            simp only [List.length_map] at hne
            rw [allZ_len hne]; simp [retOf]
          · obtain ⟨p, rfl, hp⟩ := kidAt hu
            obtain ⟨q, rfl, hq⟩ := kidAt hv
            have hDp := hDx p (List.mem_of_getElem? hp)
            have hDq := hDy q (List.mem_of_getElem? hq)
            obtain ⟨np, hnp⟩ := Dp.some hDp
            obtain ⟨nq, hnq⟩ := Dp.some hDq
            have hEσ : Ext σ τ := by k_offL
            have e1 : ks.getD i 0 = p := by rw [List.getD_eq_getElem?_getD, hp]; rfl
            have e2 : ks'.getD i 0 = q := by rw [List.getD_eq_getElem?_getD, hq]; rfl
            rw [e1, e2]
            refine w_eqBool (fun e => ?_) fun hne => ?_
            · subst e
              exact ⟨(eqv_self hG hH n p hDp hDq).symm, hE⟩
            · have Rd := R.deeper1 (e := fnEnv fEq.1 L' fEq.1.closure 71)
              refine W.mono (rich_of G (by have := Rd.r.units; omega) ((hG _ _ hnp).ext hEσ) ((hH _ _ hnq).ext hEσ) (ih _ _ _ _ p q np nq (hG.ext hEσ) (hH.ext hEσ) hDp hDq hnp hnq Rd hF2.in1 hl1 hl2)) fun r σ' ⟨hr, hE'⟩ => ⟨_, hr, rfl, hE.trans hE'⟩
          · refine ⟨_, rfl, ?_, (show Ext σ τ by k_offL).setM, ?_⟩
            · simp only [List.length_map] at hlen
              simp only [retOf, List.length_map]
              rw [allZ_range hlen, hb, Bool.true_and]
            · rfl
        · refine ⟨_, rfl, ?_, (show Ext σ _ by k_offL).setM, rfl⟩
          simp only [retOf]
          rw [hb, Bool.false_and]
end PartC9

section PartC10
open PySem PySem.W PyProof.Rows PySem.Calls
set_option maxRecDepth 100000
set_option maxHeartbeats 400000
set_option linter.unusedVariables false

local macro_rules | `(tactic| k_clsL) => `(tactic| first
  | with_reducible assumption
  | (with_reducible show Sg.m (Sg.setL _ _ _) _ = some _; first | with_reducible exact getL_same | (apply getL_skip; with_unfolding_all decide; k_clsL))
  | (with_reducible show Sg.m (Sg.put _ _ _) _ = some _; apply putM; k_clsL)
  | (with_reducible show Sg.m (Sg.del _ _) _ = some _; apply delM; k_clsL)
  | (with_reducible show Sg.m (Sg.setM _ _) _ = some _; apply setMM; k_clsL)
  | (apply viaM; with_reducible assumption; k_clsL)
  | (apply viaE; with_reducible assumption; k_clsL))
local macro_rules | `(tactic| k_offL) => `(tactic| first
  | with_reducible assumption
  | with_reducible exact Ext.rfl
  | (with_reducible show Ext _ (Sg.setL _ _ _); refine Ext.setL ?_; k_offL)
  | (with_reducible show Ext _ (Sg.put _ _ _); refine Ext.put ?_ (by first | with_reducible assumption | with_reducible exact setA (by with_reducible assumption)); k_offL)
  | (with_reducible show Ext _ (Sg.setM _ _); refine Ext.setM ?_; k_offL)
  | (with_reducible refine Ext.tr (by with_reducible assumption) ?_; k_offL)
  | (with_reducible refine Ext.tr2 (by with_reducible assumption) ?_; k_offL))
local macro_rules | `(tactic| k_places) => `(tactic| first
  | with_reducible assumption
  | with_reducible exact putA_same
  | (with_reducible show Sg.at_ (Sg.setL _ _ _) _ = some _; apply setA; k_places)
  | (with_reducible show Sg.at_ (Sg.setM _ _) _ = some _; apply setMA; k_places)
  | (with_reducible show Sg.at_ (Sg.put _ _ _) _ = some _; apply putA_new; with_reducible assumption; k_places)
  | (apply ESt.at_; with_reducible assumption; k_places)
  | (apply Ext.at'; with_reducible assumption; k_places))
local macro_rules | `(tactic| k_subL) => `(tactic| first
  | (with_reducible show W _ _ _ _ (spliced (backTo _ (starEach [] _))) _ _; refine w_items0 ?_)
  | (with_reducible show W _ _ _ _ (spliced (backTo _ (starEach (_ :: _) _))) _ _; refine w_items ?_)
  | (with_reducible show W _ _ _ _ (eval (Expr.Name _ _) _) _ _; first | refine w_local (by with_unfolding_all rfl) (by k_clsL) ?_ | refine w_cell (by with_unfolding_all rfl) (by k_places) ?_ | (with_reducible show W _ _ _ _ (eval (Expr.Name ("Tree" : Str) _) _) _ _; refine w_glob (v := .ref 142) (by assumption) (by kernel_rfl) ?_) | (with_reducible show W _ _ _ _ (eval (Expr.Name ("Token" : Str) _) _) _ _; refine w_glob (v := .ref 45) (by assumption) (by kernel_rfl) ?_))
  | (with_reducible show W _ _ _ _ (eval (Expr.Call (Expr.Name ("isinstance" : Str) _) _ [] _) _) _ _; refine w_callB (n := "isinstance") (by assumption) boot_isi (by kernel_rfl) ?_)
  | (with_reducible show W _ _ _ _ (eval (Expr.Call (Expr.Name ("len" : Str) _) _ [] _) _) _ _; refine w_callB (n := "len") (by assumption) boot_len (by kernel_rfl) ?_)
  | (with_reducible show W _ _ _ _ (eval (Expr.Call (Expr.Name ("min" : Str) _) _ [] _) _) _ _; refine w_callB (n := "min") (by assumption) boot_min (by kernel_rfl) ?_)
  | (with_reducible show W _ _ _ _ (eval (Expr.Call (Expr.Name ("range" : Str) _) _ [] _) _) _ _; refine w_callT (n := "range") (by assumption) boot_range (by kernel_rfl) ?_)
  | (with_reducible show W _ _ _ _ (eval (Expr.Call (Expr.Name ("str" : Str) _) _ [] _) _) _ _; refine w_callT (n := "str") (by assumption) boot_str (by kernel_rfl) ?_)
  | (with_reducible show W _ _ _ _ (eval (Expr.Call (Expr.Name ("list" : Str) _) _ [] _) _) _ _; refine w_callT (n := "list") (by assumption) boot_list (by kernel_rfl) ?_)
  | (with_reducible show W _ _ _ _ (eval (Expr.Call (Expr.Name ("reversed" : Str) _) _ [] _) _) _ _; refine w_callT (n := "reversed") (by assumption) boot_rev (by kernel_rfl) ?_)
  | (with_reducible show W _ _ _ _ (eval (Expr.Call (Expr.Name ("filter" : Str) _) _ [] _) _) _ _; refine w_callT (n := "filter") (by assumption) boot_filter (by kernel_rfl) ?_)
  | (with_reducible show W _ _ _ _ (call (.builtin "len") [.ref _]) _ _; (refine w_len (by k_places) ?_ fun _ => ?_); rotate_left)
  | (with_reducible show W _ _ _ _ (binaryOp .Add (.int _ _) (.int _ _)) _ _; refine w_addI fun _ => ?_)
  | (with_reducible show W _ _ _ _ (binaryOp .Sub (.int _ _) (.int _ _)) _ _; refine w_subI fun _ => ?_)
  | (with_reducible show W _ _ _ _ (compareOp .Eq (.int _ _) (.int _ _)) _ _; refine w_eqI ?_)
  | (with_reducible show W _ _ _ _ (compareOp .NotEq (.int _ _) (.int _ _)) _ _; refine w_neI ?_)
  | (with_reducible show W _ _ _ _ (compareOp .Lt (.int _ _) (.int _ _)) _ _; refine w_ltI ?_)
  | (with_reducible show W _ _ _ _ (compareOp .Eq (.str _ _) (.str _ _)) _ _; refine w_eqS ?_)
  | (with_reducible show W _ _ _ _ (compareOp .NotEq (.bool _) (.bool _)) _ _; refine w_neB ?_)
  | (with_reducible show W _ _ _ _ (unaryOp .USub (.int _ _)) _ _; refine w_negI fun _ => ?_)
  | (with_reducible show W _ _ _ _ (unaryOp .Not _) _ _; refine w_notv ?_)
  | (with_reducible show W _ _ _ _ (eval (Expr.Attribute _ _ _) _) _ _; refine w_attr ?_)
  | (with_reducible show W _ _ _ _ (eval (Expr.List _ _) _) _ _; refine w_list ?_)
  | (with_reducible show W _ _ _ _ (eval (Expr.Tuple _ _ _) _) _ _; refine w_tuple ?_)
  | (with_reducible show W _ _ _ _ (eval (Expr.BinOp _ _ _ _) _) _ _; refine w_binop ?_)
  | (with_reducible show W _ _ _ _ (eval (Expr.Compare _ [_] [_] _) _) _ _; refine w_cmp ?_)
  | (with_reducible show W _ _ _ _ (eval (Expr.IfExp _ _ _ _) _) _ _; refine w_ifexp ?_)
  | (with_reducible show W _ _ _ _ (eval (Expr.Subscript _ _ _) _) _ _; refine w_sub ?_)
  | (with_reducible show W _ _ _ _ (eval (Expr.UnaryOp _ _ _) _) _ _; refine w_unop ?_)
  | (with_reducible show W _ _ _ _ (eval (Expr.Constant .none _ _) _) _ _; refine w_none ?_)
  | (with_reducible show W _ _ _ _ (eval (Expr.Constant (.bool _) _ _) _) _ _; refine w_tf ?_)
  | (with_reducible show W _ _ _ _ (eval (Expr.Constant (.int _) _ _) _) _ _; refine w_int ?_; intro _)
  | (with_reducible show W _ _ _ _ (eval (Expr.Constant (.str _) _ _) _) _ _; refine w_str ?_; intro _)
  | (with_reducible show W _ _ _ _ (execs [] _) _ _; refine w_nil ?_)
  | (with_reducible show W _ _ _ _ (execs (Stmt.Assign [Expr.Name _ _] (Expr.ListComp _ [Comprehension.mk _ _ _ _] _ _) _ :: _) _) _ _; refine w_cons (w_assignComp ?_))
  | (with_reducible show W _ _ _ _ (execs (Stmt.Assign [Expr.Name _ _] _ _ :: _) _) _ _; refine w_consA ?_)
  | (with_reducible show W _ _ _ _ (execs (Stmt.Assign [Expr.Attribute _ _ _] _ _ :: _) _) _ _; refine w_consAttr ?_)
  | (with_reducible show W _ _ _ _ (execs (Stmt.Assign [Expr.Subscript _ _ _] _ _ :: _) _) _ _; refine w_consSub ?_)
  | (with_reducible show W _ _ _ _ (execs (Stmt.If _ _ [] _ :: _) _) _ _; refine w_consIf ?_)
  | (with_reducible show W _ _ _ _ (execs (Stmt.If _ _ _ _ :: _) _) _ _; refine w_consElse ?_)
  | (with_reducible show W _ _ _ _ (execs (Stmt.Return (some _) _ :: _) _) _ _; refine w_consRet ?_)
  | (with_reducible show W _ _ _ _ (execs (Stmt.Break _ :: _) _) _ _; refine w_consBrk ?_)
  | (with_reducible show W _ _ _ _ (execs (Stmt.Continue _ :: _) _) _ _; refine w_consCont ?_)
  | (with_reducible show W _ _ _ _ (execs (Stmt.Expr (Expr.Call (Expr.Attribute _ _ _) [_] [] _) _ :: _) _) _ _; refine w_consApp ?_)
  | (with_reducible show W _ _ _ _ (execs (Stmt.Expr _ _ :: _) _) _ _; refine w_consE ?_)
  | (with_reducible show W _ _ _ _ (isTrue (Expr.UnaryOp .Not _ _) _ _) _ _; refine w_not ?_)
  | (with_reducible show W _ _ _ _ (isTrue (Expr.BoolOp _ _ _) _ _) _ _; refine w_bool ?_)
  | (with_reducible show W _ _ _ _ (allTrue .And [] _) _ _; refine w_andNil ?_)
  | (with_reducible show W _ _ _ _ (allTrue .Or [] _) _ _; refine w_orNil ?_)
  | (with_reducible show W _ _ _ _ (allTrue .And (_ :: _) _) _ _; refine w_and ?_)
  | (with_reducible show W _ _ _ _ (allTrue .Or (_ :: _) _) _ _; refine w_or ?_)
  | (with_reducible show W _ _ _ _ (isTrue (Expr.Compare _ [_] [_] _) _ _) _ _; refine w_tcmp ?_)
  | (with_reducible show W _ _ _ _ (isTrue _ _ _) _ _; refine w_tval ?_)
  | (with_reducible show W _ _ _ _ (storeName _ _ _) _ _; first | refine w_storeL (by with_unfolding_all rfl) ?_ | refine w_storeC (by with_unfolding_all rfl) (by k_places) ?_)
  | (with_reducible show W _ _ _ _ (tests [_] _) _ _; refine w_tests1 ?_)
  | (with_reducible show W _ _ _ _ (tests [] _) _ _; refine w_tests0 ?_)
  | (with_reducible show W _ _ _ _ (eval (Expr.ListComp _ [Comprehension.mk _ _ _ _] _ _) _) _ _; refine w_listcomp ?_)
  | (with_reducible show W _ _ _ _ (truthy (.bool _)) _ _; refine w_truthyB ?_)
  | (with_reducible show thenK _ _ Flow.next _; refine thenK_next ?_)
  | (with_reducible show thenK _ _ Flow.brk _; refine thenK_brk ?_)
  | (with_reducible show thenK _ _ Flow.cont _; refine thenK_cont ?_)
  | (with_reducible show thenK _ _ (Flow.ret _) _; refine thenK_ret ?_)
  | (with_reducible show turnK _ _ _ Flow.next _; refine turnK_next ?_)
  | (with_reducible show turnK _ _ _ Flow.brk _; refine turnK_brk ?_)
  | (with_reducible show turnK _ _ _ Flow.cont _; refine turnK_cont ?_)
  | (with_reducible show turnK _ _ _ (Flow.ret _) _; refine turnK_ret ?_))

/-- two trees (or tokens) and what == needs of them -/
structure Two (b : Base) (A : Around) (F : Fs) (L : Addr) (σ : Sg) (g h : Gf) (n : Nat) (x y : Addr) (nx ny : Nd) : Prop where
  g1 : Gr σ g
  g2 : Gr σ h
  d1 : Dp g n x
  d2 : Dp h n y
  e1 : g x = some nx
  e2 : h y = some ny
  fr : Frs A F L
  l1 : ∀ p d l nm ks, g p = some (.node d l nm ks) → ks.length ≤ 2 ^ 20
  l2 : ∀ p d l nm ks, h p = some (.node d l nm ks) → ks.length ≤ 2 ^ 20

theorem w_eqT {b : Base} (G : Glb b) {A : Around} {F : Fs} {L : Addr} {σ : Sg} {g h : Gf} {n : Nat} {x y : Addr} {nx ny : Nd} {Q : Value → Sg → Prop} (R : Rm A (n + 1)) (T : Two b A F L σ g h n x y nx ny)
    (hq : ∀ σ', ESt σ σ' → Q (.bool (eqv g h n x y)) σ') : W b A F L (compareOp .Eq (.ref x) (.ref y)) σ Q := fun s E z =>
  cmp_ofEq (W.mono (rich_of G (by have := R.r.units; omega) (T.g1 _ _ T.e1) (T.g2 _ _ T.e2) (c_eq G g h n _ _ _ _ x y nx ny T.g1 T.g2 T.d1 T.d2 T.e1 T.e2 R T.fr T.l1 T.l2)) (fun r σ' ⟨hr, hE⟩ => by subst hr; exact hq σ' hE) s E z)

theorem c_ne {b : Base} (G : Glb b) {A : Around} {F : Fs} {L : Addr} {σ : Sg} {g h : Gf} {n : Nat} {x y d l : Addr} {nm : Str} {ks : List Addr} {ny : Nd} (R : Rm A (n + 2)) (T : Two b A F L σ g h n x y (.node d l nm ks) ny) :
    WC b A F L (.call (.ref 78) ⟨[.ref x, .ref y], []⟩) σ fun r σ' => r = .bool (!eqv g h n x y) ∧ ESt σ σ' := by
  refine wc_fn1 (fd := fNe.1) (binds := [("self", Value.ref x), ("other", .ref y)]) G (fNe.2 _) (by kernel_rfl) rfl R.dep rfl fun L' => ?_
  show W _ _ _ _ _ _ _
  have hF2 := T.fr.deeper (L' := L') (f := 78) (m := σ.m) (fd := fNe.1) (cs := fNe.1.closure) rfl
  repeat k_subL
  have hE0 : Ext σ (((σ.setM fun x => none).setL (Str.ofString "self") (Value.ref x)).setL (Str.ofString "other") (.ref y)) := by k_offL
  refine w_eqT G R.deeper ⟨T.g1.ext hE0, T.g2.ext hE0, T.d1, T.d2, T.e1, T.e2, hF2, T.l1, T.l2⟩ fun σ' hE => ?_
  repeat k_subL
  refine ⟨by cases eqv g h n x y <;> rfl, (show Ext σ σ' by k_offL).setM, rfl⟩

theorem w_neT {b : Base} (G : Glb b) {A : Around} {F : Fs} {L : Addr} {σ : Sg} {g h : Gf} {n : Nat} {x y d l : Addr} {nm : Str} {ks : List Addr} {ny : Nd} {Q : Value → Sg → Prop} (R : Rm A (n + 2)) (T : Two b A F L σ g h n x y (.node d l nm ks) ny)
    (hq : ∀ σ', ESt σ σ' → Q (.bool (!eqv g h n x y)) σ') : W b A F L (compareOp .NotEq (.ref x) (.ref y)) σ Q := fun s E z => by
  obtain ⟨⟨t, I⟩, _⟩ := T.g1 _ _ T.e1
  obtain ⟨tb, hb, ht⟩ := looksT (b := b) (F := F) (L := L) (T.g2 _ _ T.e2)
  refine cmp_ofNotEq (w_rich (op := .NotEq) (f := 78) G I (by have := R.r.units; omega) hb ?_ (by kernel_rfl) (by kernel_rfl) (W.mono (WC.call (c_ne G R T)) fun v σ' ⟨e, hE⟩ => ⟨by rw [e]; exact fun q => (nomatch q), by rw [e]; exact hq σ' hE⟩) s E z)
  rcases ht with rfl | rfl
  · kernel_rfl
  · kernel_rfl

/-- a tree and a number, a tree and a word -/
theorem w_eqN {b : Base} (G : Glb b) {A : Around} {F : Fs} {L : Addr} {σ : Sg} {n : Nat} {x d l : Addr} {nm : Str} {ks : List Addr} {i : Int} {t : Tok} {Q : Value → Sg → Prop} (R : Rm A (n + 1)) (hF : Frs A F L) (hx : NdAt σ x (.node d l nm ks))
    (hq : ∀ σ', ESt σ σ' → Q (.bool false) σ') : W b A F L (compareOp .Eq (.ref x) (.int i t)) σ Q := fun s E z => by
  obtain ⟨⟨t0, I⟩, hl⟩ := hx
  refine cmp_ofEq (w_rich (op := .Eq) (f := 71) (tb := .type "int") G I (by have := R.r.units; omega) (fun _ _ => Looks.now) (by kernel_rfl) (by kernel_rfl) (by kernel_rfl) (W.mono (WC.call (c_eqRaise G R hF ⟨⟨t0, I⟩, hl⟩ (ov := .int i t) fun A' F' L' τ s E Q hh hE z h => getAttr_miss_int (by rw [typeLookup_type, builtinLookup_eq_fast]; kernel_rfl) hh h (by decide +kernel))) fun v σ' ⟨e, hE⟩ => ⟨by rw [e]; exact fun q => (nomatch q), by rw [e]; exact hq σ' hE⟩) s E z)
theorem w_eqW {b : Base} (G : Glb b) {A : Around} {F : Fs} {L : Addr} {σ : Sg} {n : Nat} {x d l : Addr} {nm : Str} {ks : List Addr} {i : Str} {t : Tok} {Q : Value → Sg → Prop} (R : Rm A (n + 1)) (hF : Frs A F L) (hx : NdAt σ x (.node d l nm ks))
    (hq : ∀ σ', ESt σ σ' → Q (.bool false) σ') : W b A F L (compareOp .Eq (.ref x) (.str i t)) σ Q := fun s E z => by
  obtain ⟨⟨t0, I⟩, hl⟩ := hx
  refine cmp_ofEq (w_rich (op := .Eq) (f := 71) (tb := .type "str") G I (by have := R.r.units; omega) (fun _ _ => Looks.now) (by kernel_rfl) (by kernel_rfl) (by kernel_rfl) (W.mono (WC.call (c_eqRaise G R hF ⟨⟨t0, I⟩, hl⟩ (ov := .str i t) fun A' F' L' τ s E Q hh hE z h => getAttr_miss_str (by rw [typeLookup_type, builtinLookup_eq_fast]; kernel_rfl) hh h (by decide +kernel))) fun v σ' ⟨e, hE⟩ => ⟨by rw [e]; exact fun q => (nomatch q), by rw [e]; exact hq σ' hE⟩) s E z)
end PartC10

section PartC11
open PySem PySem.W PyProof.Rows PySem.Calls
set_option maxRecDepth 100000
set_option maxHeartbeats 400000
set_option linter.unusedVariables false

/-- one run of a generator's code, to its next word or its end -/
def Run1 (M : Model) (A : Around) (Φ : End → Shared → Prop) (c : Code) (t : Sem PySem.Fin) (fs : List Frame) (s : Shared) : Prop :=
  ∀ Γ p, Γ.code = c → Γ.Woken A → ∃ e s', Runs M Γ p t fs s e s' ∧ Φ e s'

section
variable {M : Model} {A : Around} {Φ : End → Shared → Prop} {c : Code} {fs : List Frame} {s : Shared} {env : Env} {K : Flow → Sem PySem.Fin} {H : Value → Sem PySem.Fin} {gd : Bool → Bool} {lv : List Value → List Value}
theorem run_wrap {α : Type} {m : Sem α} {K : α → Sem PySem.Fin} {H : Value → Sem PySem.Fin} {gd lv}
    (h : wpAny M (A.over c fs) m (fun a s' => Run1 M A Φ c (K a) fs s') (fun x s' => Run1 M A Φ c (H x) fs s') s) : Run1 M A Φ c (m.wrap K H gd lv) fs s := by
  rintro Γ p rfl hΓ
  exact runs_wrap_of_wp K H gd lv m (h (Γ.over fs) p (hΓ.over fs)) (fun a p' s' h' => h' Γ p' rfl hΓ) (fun x p' s' h' => h' Γ p' rfl hΓ)
theorem run_bind {α : Type} {m : Sem α} {K : α → Sem PySem.Fin} (h : wpAny M (A.over c fs) m (fun a s' => Run1 M A Φ c (K a) fs s') (fun x s' => Run1 M A Φ c (.raise x) fs s') s) : Run1 M A Φ c (m >>= K) fs s := by
  rw [Sem.bind_eq_wrap']; exact run_wrap h
theorem run_at {p' : Pos} {k : Unit → Sem PySem.Fin} (h : Run1 M A Φ c (k ()) fs s) : Run1 M A Φ c (.at p' k) fs s := run_wrap (m := standAt p') (K := k) (H := .raise) (gd := id) (lv := id) (wpAny_standAt h)
theorem run_point {l : List Value} {k : Unit → Sem PySem.Fin} (h : Run1 M A Φ c (k ()) fs s) : Run1 M A Φ c (.point l k) fs s := run_wrap (m := point) (K := k) (H := .raise) (gd := id) (lv := fun _ => l) (wpAny_point h)
theorem run_rule {tag : String} {k : Unit → Sem PySem.Fin} (h : Run1 M A Φ c (k ()) fs s) : Run1 M A Φ c (.rule tag k) fs s := run_wrap (m := rule tag) (K := k) (H := .raise) (gd := id) (lv := id) (wpAny_rule h)
theorem run_call {c' : Code} {h g l} {k : Result → Sem PySem.Fin} (hc : ∀ p, Run1 M A Φ c' (M.den c') (.ret k h g l c p [] :: fs) s) : Run1 M A Φ c (.call c' h g l k) fs s := by
  rintro Γ p rfl hΓ
  obtain ⟨e, s', hr, he⟩ := hc p (Γ.goto c') p rfl (hΓ.goto c')
  exact ⟨e, s', runs_call_seg hr, he⟩
theorem run_leaf {k h g l c₁ p₁ kp} (r : Result) (hk : Run1 M A Φ c₁ (k r) fs s) : Run1 M A Φ c (leafOf r) (.ret k h g l c₁ p₁ kp :: fs) s := by
  rintro Γ p rfl hΓ
  obtain ⟨e, s', hr, he⟩ := hk (Γ.goto c₁) p₁ rfl (hΓ.goto c₁)
  exact ⟨e, s', Runs.pop r hr, he⟩
theorem run_again {c' : Code} (hq : c'.quiet = true) (hc : Run1 M A Φ c' (M.den c') fs s) : Run1 M A Φ c (.pure (.again c')) fs s := by
  rintro Γ p rfl hΓ
  obtain ⟨e, s', hr, he⟩ := hc (Γ.goto c') p rfl (hΓ.goto c')
  exact ⟨e, s', Runs.head (c₁ := c') (fun _ _ x => .again hq x) hr, he⟩
theorem run_end (r : Result) (h : Φ (.ret r) s) : Run1 M A Φ c (leafOf r) [] s := by
  rintro Γ p rfl _
  exact ⟨.ret r, s, Runs.leaf r, h⟩
theorem run_yield {v g l} {k : Resume → Sem PySem.Fin} (hfs : splitAtGen fs = none) (h : ∀ p, Φ (.susp v g l k c p fs) s) : Run1 M A Φ c (.yield v g l k) fs s := by
  rintro Γ p rfl _
  exact ⟨_, s, Runs.yield' fs hfs, h p⟩

theorem run_nil (h : Run1 M A Φ c (K .next) fs s) : Run1 M A Φ c ((execs [] env).wrap K H gd lv) fs s := h
theorem run_cons {st : Stmt} {rest : List Stmt} (h : Run1 M A Φ c ((exec st env).wrap (fun f => match f with | .next => (execs rest env).wrap K H gd lv | f => K f) H gd lv) fs s) :
    Run1 M A Φ c ((execs (st :: rest) env).wrap K H gd lv) fs s := by rw [execs_cons_wrap]; exact h
/-- `yield e` as a statement: what comes back is None -/
theorem run_Yield {e : Expr} {ypos pos : Pos} (hfs : splitAtGen fs = none)
    (h : wpAny M (A.over c fs) (eval e env) (fun v s' => ∀ g l k p, g = gd false → (∀ Φ' A' s'', Run1 M A' Φ' c (K .next) fs s'' → Run1 M A' Φ' c (k (.send .none)) fs s'') → Φ (.susp v g l k c p fs) s')
      (fun x s' => Run1 M A Φ c (H x) fs s') s) (hco : env.scope.isCoroutine = false := by rfl) (hi : interactive env = false := by rfl) :
    Run1 M A Φ c ((exec (.Expr (.Yield (some e) ypos) pos) env).wrap K H gd lv) fs s := by
  rw [exec_Expr env _ pos hi rfl]
  show Run1 M A Φ c (.at pos fun _ => ((eval e env >>= fun v => (standAt ypos >>= fun _ => yieldOut env v)) >>= fun x =>
    dropValue (.Yield (some e) ypos) pos x).wrap K H gd lv) fs s
  have hy : ∀ v, yieldOut env v = yieldValue v := fun v => by simp only [yieldOut, hco, Bool.false_eq_true, if_false]
  simp only [hy]
  refine run_at ?_
  rw [Sem.bind_eq_wrap', Sem.bind_eq_wrap', Sem.wrap_wrap, Sem.wrap_wrap]
  refine run_wrap (wpAny_mono h (fun v s' h' => ?_) fun _ _ x => x)
  refine run_at (run_yield hfs fun p => ?_)
  exact h' _ _ _ p rfl fun Φ' A' s'' hx => hx
theorem run_While {test : Expr} {body orelse : List Stmt} {pos : Pos}
    (h : ∀ p, Run1 M A Φ (.whileLoop test body orelse env) (M.den (.whileLoop test body orelse env))
      (.ret (fun r => ((match r with | .ok f => (.pure f : Sem Flow) | .error e => .raise e).onRaise fun (x : Value) => do
        if (← field x 1) == Value.none then unsupported "frame.own-activation:exception-without-traceback"
        setFlight x env.frame).wrap K H gd lv) none (gd false) (lv []) c p [] :: fs) s) :
    Run1 M A Φ c ((exec (.While test body orelse pos) env).wrap K H gd lv) fs s :=
  run_at (run_call h)
end

section
variable {prog : Program} {w : World} {A : Around} {Φ : End → Shared → Prop} {fs : List Frame} {s : Shared} {env : Env}
theorem run_whileLoop {test : Expr} {body orelse : List Stmt}
    (h : wpAny (model prog w) (A.over (.whileLoop test body orelse env) fs) (isTrue test env (eval test env)) (fun b s' =>
        if b = true then
          Run1 (model prog w) A Φ (.whileLoop test body orelse env) ((execs body env).wrap (fun f => match f with
            | .next | .cont => .pure (.again (.whileLoop test body orelse env))
            | .brk => .pure (.done .next)
            | .ret v => .pure (.done (.ret v))) (fun e => (do noteFrame e env; theTreesLotGoes e : Sem Unit).wrap (fun _ => .raise e) .raise id id) id id) fs s'
        else Run1 (model prog w) A Φ (.whileLoop test body orelse env) ((execs orelse env).wrap (fun f => .pure (.done f)) (fun e => (do noteFrame e env; theTreesLotGoes e : Sem Unit).wrap (fun _ => .raise e) .raise id id) id id) fs s')
      (fun x s' => Run1 (model prog w) A Φ (.whileLoop test body orelse env) ((do noteFrame x env; theTreesLotGoes x : Sem Unit).wrap (fun _ => .raise x) .raise id id) fs s') s) :
    Run1 (model prog w) A Φ (.whileLoop test body orelse env) ((model prog w).den (.whileLoop test body orelse env)) fs s := by
  show Run1 _ A Φ _ ((whileTurn test body orelse env).onRaise (fun x => do noteFrame x env; theTreesLotGoes x)) fs s
  unfold whileTurn
  rw [Sem.onRaise_eq_wrap, Sem.bind_eq_wrap', Sem.wrap_wrap]
  refine run_wrap (wpAny_mono h (fun b s' hb => ?_) fun x s' hx => ?_)
  · cases b with
    | true =>
      rw [if_pos rfl] at hb
      show Run1 _ A Φ _ (Sem.wrap _ _ _ _ (if true = true then _ else _)) fs s'
      rw [if_pos rfl, Sem.bind_eq_wrap', Sem.wrap_wrap]
      rw [Sem.wrap_congr (execs body env) _ _ (K' := fun f => match f with
            | .next | .cont => .pure (.again (.whileLoop test body orelse env))
            | .brk => .pure (.done .next)
            | .ret v => .pure (.done (.ret v))) (H' := (fun e => (do noteFrame e env; theTreesLotGoes e : Sem Unit).wrap (fun _ => .raise e) .raise id id))
        (fun f => by cases f <;> rfl)
        (fun e => by first | exact Sem.bind_eq_wrap _ _ | (show (do noteFrame e env; theTreesLotGoes e : Sem Unit).bind (fun _ => .raise e) = _; rw [Sem.bind_eq_wrap]))]
      exact hb
    | false =>
      rw [if_neg Bool.false_ne_true] at hb
      show Run1 _ A Φ _ (Sem.wrap _ _ _ _ (if false = true then _ else _)) fs s'
      rw [if_neg Bool.false_ne_true, Sem.bind_eq_wrap', Sem.wrap_wrap]
      rw [Sem.wrap_congr (execs orelse env) _ _ (K' := fun f => (.pure (.done f) : Sem PySem.Fin)) (H' := (fun e => (do noteFrame e env; theTreesLotGoes e : Sem Unit).wrap (fun _ => .raise e) .raise id id))
        (fun f => by rfl)
        (fun e => by first | exact Sem.bind_eq_wrap _ _ | (show (do noteFrame e env; theTreesLotGoes e : Sem Unit).bind (fun _ => .raise e) = _; rw [Sem.bind_eq_wrap]))]
      exact hb
  · first
      | (rw [← Sem.bind_eq_wrap] at hx; exact hx)
      | (show Run1 _ A Φ _ ((do noteFrame x env; theTreesLotGoes x : Sem Unit).bind fun _ => .raise x) fs s'; rw [Sem.bind_eq_wrap]; exact hx)
theorem run_func {body : List Stmt}
    (h : Run1 (model prog w) A Φ (.func body env) ((execs body env).wrap (fun f => .pure (.done (.ret (match f with | .ret v => v | _ => .none))))
      (fun e => (leaving env e).wrap (fun _ => .raise e) .raise id id) id id) fs s) :
    Run1 (model prog w) A Φ (.func body env) ((model prog w).den (.func body env)) fs s := by
  show Run1 _ A Φ _ (.point [] fun _ => ((execs body env).onRaise (leaving env)) >>= _) fs s
  refine run_point ?_
  rw [Sem.onRaise_eq_wrap, Sem.bind_eq_wrap', Sem.wrap_wrap]
  rw [Sem.wrap_congr (execs body env) _ _ (K' := fun f => .pure (.done (.ret (match f with | .ret v => v | _ => .none))))
    (H' := fun e => (leaving env e).wrap (fun _ => .raise e) .raise id id) (fun f => by cases f <;> rfl)
    (fun e => by rw [Sem.bind_eq_wrap, Sem.wrap_wrap]; rfl)]
  exact h
end

/-- what a generator's state does when it is woken -/
def Wk (M : Model) (A : Around) (Φ : End → Shared → Prop) (gs : GenState) (s : Shared) : Prop := match gs with
  | .fresh c => Run1 M A Φ c (M.den c) [] s
  | .suspended k _ c _ fs _ => Run1 M A Φ c (k (.send .none)) fs s
  | _ => False
theorem resume1 {M : Model} {A : Around} {Φ : End → Shared → Prop} {E : Value → Shared → Prop} {s : Shared} {g : Nat} {gs : GenState} {l : List Value} {α : Type} {k : GenResult → Sem α} {Q : α → Shared → Prop} (hg : s.gens[g]? = some gs)
    (hgo : Wk M A Φ gs (s.setGen g .running)) (hΦ : ∀ e s₁, Φ e s₁ → e.quiet = true ∧ wpAny M A (k e.result) Q E (s₁.setGen g e.genState)) : wpAny M A (.resume g (.send .none) l k) Q E s := by
  intro Γ p hΓ
  rw [Sem.wp_resume]
  have hB : ∀ c, (Γ.wake c p).Woken A := fun c => hΓ.wake c p
  cases gs with
  | fresh c =>
    obtain ⟨e₁, s₁, hr, he⟩ := hgo (Γ.wake c p) p rfl (hB c)
    exact ⟨_, _, by unfold Wakes; rw [hg]; exact ⟨e₁, s₁, hr, (hΦ e₁ s₁ he).1, rfl, rfl⟩, (hΦ e₁ s₁ he).2 Γ p hΓ⟩
  | suspended k₀ l₀ c₀ p₀ fs₀ cl =>
    obtain ⟨e₁, s₁, hr, he⟩ := hgo (Γ.wake c₀ p) p₀ rfl (hB c₀)
    exact ⟨_, _, by unfold Wakes; rw [hg]; exact ⟨e₁, s₁, hr, (hΦ e₁ s₁ he).1, rfl, rfl⟩, (hΦ e₁ s₁ he).2 Γ p hΓ⟩
  | running => exact hgo.elim
  | finished => exact hgo.elim
end PartC11

section PartC12
open PySem PySem.W PyProof.Rows PySem.Calls
set_option maxRecDepth 100000
set_option maxHeartbeats 400000
set_option linter.unusedVariables false

theorem next1 {prog : Program} {w : World} {A : Around} {E : Value → Shared → Prop} {s : Shared} {a : Addr} {g : Nat} {gs : GenState} {Φ : End → Shared → Prop} {Q : Option Value → Shared → Prop} (hh : A.handled = none)
    (hl : s.heap.NoLimit) (hroom : A.depth < recursionLimit) (hg : s.heap.IsGen a g) (hgs : s.gens[g]? = some gs) (hgo : Wk (model prog w) A.in1 Φ gs (s.setGen g .running))
    (hR : ∀ x s₁, Φ (.ret x) s₁ → x = .ok (.ret .none) ∧ ∀ h', (∀ b o, s₁.heap.get? b = some o → h'.get? b = some o) → Q none { s₁.setGen g .finished with heap := h' })
    (hY : ∀ v g0 l k c p fs s₁, Φ (.susp v g0 l k c p fs) s₁ → (End.susp v g0 l k c p fs).quiet = true ∧ Q (some v) (s₁.setGen g (End.susp v g0 l k c p fs).genState)) :
    wpAny (model prog w) A (pyNext (.ref a)) Q E s := by
  unfold pyNext
  refine wpAny_bind (wpAny_attempt (wpAny_callSpecial?_slot (name := Str.ofString "__next__") hg.typeIs slot_gen_next
    (wpAny_call_entry slot_gen_next hg.typeIs entry_gen_next ?_ (args_gen_next _))))
  show wpAny _ _ (Builtin.Generator.genWake (.ref a) (.send .none)) _ _ s
  unfold Builtin.Generator.genWake
  refine wpAny_bind (wpAny_holding (wpAny_genNumber hg (wpAny_bind (wpAny_genState hgs ?_))))
  cases gs with
  | running => exact hgo.elim
  | finished => exact hgo.elim
  | _ =>
    refine wpAny_bind (wpAny_roomToWake hl hroom ?_)
    show wpAny _ _ (.resume g (.send .none) [] _) _ _ s
    refine resume1 hgs hgo fun e s₁ he => ?_
    cases e with
    | ret x =>
      obtain ⟨rfl, hp⟩ := hR x s₁ he
      refine ⟨rfl, ?_⟩
      show wpAny _ _ (newExc (.type "StopIteration") [] >>= _) _ _ _
      refine wpAny_bind ?_
      simp only [newExc, newTuple]
      refine wpAny_bind (wpAny_newObj_type ?_ (by size_fits))
      refine wpAny_bind (m := firstArgMember _ _) (wpAny_of_eq (a := Value.none) (by first | rfl | (simp only [firstArgMember]; rfl)) ?_)
      refine wpAny_newObj_type ?_ (by size_fits)
      simp only [raiseNew]
      refine wpAny_bind (wpAny_bind (wpAny_handled ?_))
      rw [show A.in1.handled = none from hh]
      refine wpAny_throw ?_
      refine wpAny_bind (wpAny_isInstance (T := "StopIteration") (b := true) ⟨_, Heap.get?_push_size _ rfl, rfl⟩ isSubtype_stop ?_)
      exact wpAny_pure (hp _ fun b o hb => Heap.get?_push_of_some _ (Heap.get?_push_of_some _ hb))
    | susp v g0 l k c p fs =>
      obtain ⟨hq, hv⟩ := hY v g0 l k c p fs s₁ he
      exact ⟨hq, wpAny_pure ⟨v, rfl, wpAny_pure hv⟩⟩
end PartC12

section PartC13
open PySem PySem.W PyProof.Rows PySem.Calls
set_option maxRecDepth 100000
set_option maxHeartbeats 400000
set_option linter.unusedVariables false

section
variable {b : Base} {A : Around} {F : Fs} {L : Addr} {σ : Sg} {env : Env}
theorem GensOk.set {F : Fs} {a : Addr} {i : Nat} {g g' : GenState} {gs : Array GenState} (x : GensOk ((a, .gen i g) :: F) gs) : GensOk ((a, .gen i g') :: F) (gs.setIfInBounds i g') := by
  have e : ∀ g, gensOf ((a, Kp.gen i g) :: F) = (i, g) :: gensOf F := fun g => rfl
  have hi := x.own (i, g) (by rw [e]; exact .head _)
  have hnd := x.nd
  rw [e, List.map_cons, List.nodup_cons] at hnd
  refine ⟨fun j h hj => ?_, fun p hp => ?_, by rw [e, List.map_cons, List.nodup_cons]; exact hnd⟩
  · rw [e]
    rw [Array.getElem?_setIfInBounds] at hj
    split at hj
    · rename_i q; subst q
      split at hj
      · cases hj; exact .inr (.head _)
      · cases hj
    · rename_i q
      rcases x.all j h hj with h1 | h1
      · exact .inl h1
      · rw [e] at h1
        rcases List.mem_cons.mp h1 with h1 | h1
        · cases h1; exact absurd rfl q
        · exact .inr (.tail _ h1)
  · rw [e] at hp
    rcases List.mem_cons.mp hp with rfl | hp
    · rw [Array.getElem?_setIfInBounds]
      have := (Array.getElem?_eq_some_iff.mp hi).1
      simp [this]
    · have h1 := x.own p (by rw [e]; exact .tail _ hp)
      have hne : i ≠ p.1 := fun q => hnd.1 (q ▸ List.mem_map.mpr ⟨p, hp, rfl⟩)
      rw [Array.getElem?_setIfInBounds, if_neg hne]; exact h1
theorem GensOk.done {F : Fs} {a : Addr} {i : Nat} {g : GenState} {gs : Array GenState} (x : GensOk ((a, .gen i g) :: F) gs) : GensOk F (gs.setIfInBounds i .finished) := by
  have y := x.set (g' := .finished)
  have e : gensOf ((a, Kp.gen i GenState.finished) :: F) = (i, .finished) :: gensOf F := rfl
  refine ⟨fun j h hj => ?_, fun p hp => y.own p (by rw [e]; exact .tail _ hp), ?_⟩
  · rcases y.all j h hj with h1 | h1
    · exact .inl h1
    · rw [e] at h1
      rcases List.mem_cons.mp h1 with h1 | h1
      · cases h1; exact .inl rfl
      · exact .inr h1
  · have := y.nd; rw [e, List.map_cons, List.nodup_cons] at this; exact this.2
theorem St.setGen {s : Shared} {a : Addr} {i : Nat} {g g' : GenState} (x : St b ((a, .gen i g) :: F) L σ s) : St b ((a, .gen i g') :: F) L σ (s.setGen i g') := by
  refine ⟨x.ns, fun p hp => ?_, x.nd, x.keep, x.cl, ⟨x.offL.1, x.offL.2.1, fun p hp => ?_⟩, fun p hp => ?_, x.offC, x.gens.set, x.os⟩
  · rcases List.mem_cons.mp hp with rfl | hp
    · exact x.fr (a, .gen i g) (.head _)
    · exact x.fr p (.tail _ hp)
  · rcases List.mem_cons.mp hp with rfl | hp
    · exact x.offL.2.2 (a, .gen i g) (.head _)
    · exact x.offL.2.2 p (.tail _ hp)
  · rcases List.mem_cons.mp hp with rfl | hp
    · exact x.offF (a, .gen i g) (.head _)
    · exact x.offF p (.tail _ hp)
theorem St.doneGen {s : Shared} {a : Addr} {i : Nat} {g : GenState} (x : St b ((a, .gen i g) :: F) L σ s) : St b F L σ (s.setGen i .finished) :=
  ⟨x.ns, fun p hp => x.fr p (.tail _ hp), (List.nodup_cons.mp x.nd).2, x.keep, x.cl, ⟨x.offL.1, x.offL.2.1, fun p hp => x.offL.2.2 p (.tail _ hp)⟩, fun p hp => x.offF p (.tail _ hp), x.offC, x.gens.done, x.os⟩
end

/-- a generator that is still to give rem -/
def GI (b : Base) (a : Addr) (gi : Nat) (d : Nat) (K : Sg → Prop) : List Value → Fs → GenState → Prop
  | [], Fg, gs => ∀ A F L σ s, Rm A d → K σ → St b ((a, .gen gi .running) :: (Fg ++ F)) L σ s → Wk (model P b.w) A (fun e s₁ => match e with
      | .ret x => x = .ok (.ret .none) ∧ ∃ σ', St b ((a, .gen gi .running) :: F) L σ' s₁ ∧ ESt σ σ'
      | _ => False) gs s
  | v :: rem, Fg, gs => ∀ A F L σ s, Rm A d → K σ → St b ((a, .gen gi .running) :: (Fg ++ F)) L σ s → Wk (model P b.w) A (fun e s₁ => match e with
      | .susp v' g0 l k c p fs => (End.susp v' g0 l k c p fs).quiet = true ∧ v' = v ∧ ∃ Fg' σ', St b ((a, .gen gi .running) :: (Fg' ++ F)) L σ' s₁ ∧ ESt σ σ' ∧ GI b a gi d K rem Fg' (End.susp v' g0 l k c p fs).genState
      | _ => False) gs s

theorem next_gi {b : Base} (G : Glb b) {A : Around} {F : Fs} {L : Addr} {σ : Sg} {a : Addr} {gi d : Nat} {K : Sg → Prop} {rem : List Value} {Fg : Fs} {gs : GenState} {D : Sg → Prop} {I : Value → Fs → Sg → Prop} (R : Rm A.in1 d) (hK : K σ) (h : GI b a gi d K rem Fg gs)
    (hd : rem = [] → ∀ σ', ESt σ σ' → D σ') (hi : ∀ v rem', rem = v :: rem' → ∀ Fg' gs' σ', ESt σ σ' → GI b a gi d K rem' Fg' gs' → I v ((a, .gen gi gs') :: Fg') σ') :
    Next b A F L (.ref a) ((a, .gen gi gs) :: Fg) σ D I := fun s E y => by
  have own := y.gens.own (gi, gs) (.head _)
  have isg : s.heap.IsGen a gi := y.fr (a, .gen gi gs) (.head _)
  have hroom : A.depth < recursionLimit := R.dep
  cases rem with
  | nil =>
    refine next1 (Φ := fun e s₁ => match e with
      | .ret x => x = .ok (.ret .none) ∧ ∃ σ', St b ((a, .gen gi .running) :: F) L σ' s₁ ∧ ESt σ σ'
      | _ => False) R.hh (G.lim.keeps y.keep) hroom isg own (h A.in1 F L σ _ R hK y.setGen) (fun x s₁ hx => ?_) (fun v g0 l k c p fs s₁ hx => hx.elim)
    obtain ⟨e, σ', y', hE⟩ := hx
    exact ⟨e, fun h' hk => ⟨σ', y'.doneGen.grow hk, hd rfl σ' hE⟩⟩
  | cons v rem' =>
    refine next1 (Φ := fun e s₁ => match e with
      | .susp v' g0 l k c p fs => (End.susp v' g0 l k c p fs).quiet = true ∧ v' = v ∧ ∃ Fg' σ', St b ((a, .gen gi .running) :: (Fg' ++ F)) L σ' s₁ ∧ ESt σ σ' ∧ GI b a gi d K rem' Fg' (End.susp v' g0 l k c p fs).genState
      | _ => False) R.hh (G.lim.keeps y.keep) hroom isg own (h A.in1 F L σ _ R hK y.setGen) (fun x s₁ hx => hx.elim) (fun v' g0 l k c p fs s₁ hx => ?_)
    obtain ⟨hq, hv, Fg', σ', y', hE, hG⟩ := hx
    subst hv
    exact ⟨hq, _, σ', y'.setGen, hi _ _ rfl Fg' _ σ' hE hG⟩
end PartC13

section PartC14
open PySem PySem.W PyProof.Rows PySem.Calls
set_option maxRecDepth 100000
set_option maxHeartbeats 400000
set_option linter.unusedVariables false

theorem CellK.mono {k k' : List (Str × Addr) → Sg → Prop} (hk : ∀ c t, k c t → k' c t) : ∀ (names : List (Str × NameKind)) (cs : List (Str × Addr)) (τ : Sg), CellK names cs τ k → CellK names cs τ k'
  | [], cs, τ, h => hk _ _ h
  | (n, kd) :: r, cs, τ, h => by
    unfold CellK at h ⊢
    split
    · rename_i q; rw [if_pos q] at h; exact fun c hc => CellK.mono hk r _ _ (h c hc)
    · rename_i q; rw [if_neg q] at h; exact CellK.mono hk r _ _ h
theorem BindK.mono {e : Env} {k k' : Sg → Prop} (hk : ∀ t, k t → k' t) : ∀ (binds : List (Str × Value)) (τ : Sg), BindK e binds τ k → BindK e binds τ k'
  | [], τ, h => hk _ h
  | (n, v) :: r, τ, h => by
    unfold BindK at h ⊢
    generalize e.kindOf n = kd at h ⊢
    cases kd with
    | none => exact h.elim
    | some kd =>
      cases kd <;> first
        | exact BindK.mono hk r _ h
        | exact h.elim
        | (generalize e.cells.lookup n = cl at h ⊢
           cases cl with
           | none => exact h.elim
           | some c => exact ⟨h.1, BindK.mono hk r _ h.2⟩)

section
variable {b : Base} {A : Around} {F : Fs} {L : Addr} {σ : Sg} {env : Env} {α β : Type}
theorem GensOk.push {F : Fs} {a : Addr} {c : Code} {gs : Array GenState} (x : GensOk F gs) : GensOk ((a, .gen gs.size (.fresh c)) :: F) (gs.push (.fresh c)) := by
  have e : gensOf ((a, Kp.gen gs.size (GenState.fresh c)) :: F) = (gs.size, .fresh c) :: gensOf F := rfl
  have lt : ∀ p ∈ gensOf F, p.1 < gs.size := fun p hp => (Array.getElem?_eq_some_iff.mp (x.own p hp)).1
  refine ⟨fun j h hj => ?_, fun p hp => ?_, ?_⟩
  · rw [e]
    rw [Array.getElem?_push] at hj
    split at hj
    · rename_i q; subst q; cases hj; exact .inr (.head _)
    · exact (x.all j h hj).imp id (.tail _)
  · rw [e] at hp
    rcases List.mem_cons.mp hp with rfl | hp
    · rw [Array.getElem?_push, if_pos rfl]
    · rw [Array.getElem?_push, if_neg (by have := lt p hp; omega)]; exact x.own p hp
  · rw [e, List.map_cons, List.nodup_cons]
    refine ⟨fun h => ?_, x.nd⟩
    obtain ⟨p, hp, q⟩ := List.mem_map.mp h
    have := lt p hp; dsimp only at q; omega
theorem St.newGen {s : Shared} {c : Code} {nm qn : Value} {t : Nat} (x : St b F L σ s) :
    St b ((s.heap.objs.size, .gen s.gens.size (.fresh c)) :: F) L σ { s with gens := s.gens.push (.fresh c), toks := t, heap := s.heap.push { cls := .type "generator", data := .fields #[.int s.gens.size 0, nm, qn] } } := by
  have y := (x.allocF (o := { cls := .type "generator", data := .fields #[.int s.gens.size 0, nm, qn] }) (k := .cl (.obj { cls := .type "generator", data := .fields #[.int s.gens.size 0, nm, qn] })) (Heap.get?_push_size _ rfl)).2
  refine ⟨y.ns, fun p hp => ?_, y.nd, y.keep, y.cl, ⟨y.offL.1, y.offL.2.1, fun p hp => ?_⟩, fun p hp => ?_, y.offC, x.gens.push, y.os⟩
  · rcases List.mem_cons.mp hp with rfl | hp
    · exact ⟨_, nm, qn, Heap.get?_push_size _ rfl, rfl, rfl, rfl⟩
    · exact y.fr p (.tail _ hp)
  · rcases List.mem_cons.mp hp with rfl | hp
    · exact y.offL.2.2 (_, .cl (.obj _)) (.head _)
    · exact y.offL.2.2 p (.tail _ hp)
  · rcases List.mem_cons.mp hp with rfl | hp
    · exact y.offF (_, .cl (.obj _)) (.head _)
    · exact y.offF p (.tail _ hp)

/-- like W, but entries out of sight may come in front -/
def V (b : Base) (A : Around) (F : Fs) (L : Addr) {α : Type} (t : Sem α) (σ : Sg) (Q : α → Fs → Sg → Prop) : Prop :=
  ∀ s E, St b F L σ s → wpAny (model P b.w) A t (fun a s' => ∃ Fi σ', St b (Fi ++ F) L σ' s' ∧ Q a Fi σ') E s
def VC (b : Base) (A : Around) (F : Fs) (L : Addr) (c : Code) (σ : Sg) (Q : Value → Fs → Sg → Prop) : Prop :=
  ∀ s R, St b F L σ s → (∀ v s' Fi σ', St b (Fi ++ F) L σ' s' → Q v Fi σ' → R (.ok (.ret v)) s') → codeAny (model P b.w) A c R s
theorem VC.call {f : Value} {pos : List Value} {kw : List (Str × Value)} {Q : Value → Fs → Sg → Prop} (h : VC b A F L (.call f ⟨pos, kw⟩) σ Q) : V b A F L (PySem.call f pos kw) σ Q :=
  fun s E x => wpAny_call (h s _ x fun v s' Fi σ' y q => ⟨Fi, σ', y, q⟩)
theorem V.mono {t : Sem α} {Q Q' : α → Fs → Sg → Prop} (h : V b A F L t σ Q) (k : ∀ a Fi σ', Q a Fi σ' → Q' a Fi σ') : V b A F L t σ Q' :=
  fun s E x => wpAny_mono (h s E x) (fun a s' ⟨Fi, σ', y, q⟩ => ⟨Fi, σ', y, k a Fi σ' q⟩) fun _ _ e => e
theorem V.iter {t : Sem Value} {Q : Value → Fs → Sg → Prop} (h : V b A F L t σ fun xv Fi σ₁ => ∃ a gi g Fi', xv = .ref a ∧ Fi = (a, .gen gi g) :: Fi' ∧ Q xv Fi σ₁) : EvIter b A F L t σ Q := fun s E x => by
  refine wpAny_mono (h s E x) (fun xv s₁ ⟨Fi, σ₁, y, a, gi, g, Fi', e1, e2, q⟩ => ?_) fun _ _ e => e
  subst e1; subst e2
  exact wpAny_pyIter_gen (y.fr (a, .gen gi g) (.head _)) ⟨_, _, y, q⟩
theorem v_callM {o : Expr} {name : Str} {apos pos : Pos} {args : List Expr} {pl : Sem Bool} {Q : Value → Fs → Sg → Prop}
    (h : W b A F L (eval o env) σ fun ov σ₁ => W b A F L (getMethod ov name pl) σ₁ fun fx σ₂ => V b A F L (callWith pos fx.1 fx.2 (backTo pos (starEach args env)) []) σ₂ Q)
    (he : eval (.Call (.Attribute o name apos) args [] pos) env = (do
      let ov ← eval o env
      standAt apos.atName
      let (f, first) ← holding [ov] (getMethod ov name pl)
      callWith pos f first (backTo pos (starEach args env)) (backToKw pos (keywordEach [] env))) := by with_unfolding_all rfl) : V b A F L (eval (.Call (.Attribute o name apos) args [] pos) env) σ Q :=
  fun s E x => methodCall_KW (wpAny_mono (h s E x) (fun _ s' ⟨_, y, q⟩ => wpAny_mono (q s' E y) (fun _ s' ⟨_, y, q⟩ => q s' E y) fun _ _ e => e) fun _ _ e => e) he
theorem v_cwK {pos : Pos} {f : Value} {first : List Value} {args : List Expr} {Q : Value → Fs → Sg → Prop} (G : Glb b) (hk : keepIn (Kb b) f = true)
    (h : W b A F L (spliced (backTo pos (starEach args env))) σ fun vs σ₁ => V b A F L (call f (first ++ vs)) σ₁ Q) (hp : (backTo pos (starEach args env)).any (·.1) = false := by with_unfolding_all rfl) :
    V b A F L (callWith pos f first (backTo pos (starEach args env)) []) σ Q := fun s E x => by
  refine callWith_of (P := fun h => (Kb b).In h) (by rw [hp]; rfl) (keeps_K hk) ?_
  have z : wpAny (model P b.w) A (spliced (backTo pos (starEach args env))) (fun vs s₁ => (Kb b).In s₁.heap ∧ wpAny (model P b.w) A (call f (first ++ vs)) (fun a s' => ∃ Fi σ', St b (Fi ++ F) L σ' s' ∧ Q a Fi σ') E s₁) E s :=
    wpAny_mono (h s E x) (fun vs s' ⟨_, y, q⟩ => ⟨G.k.keeps y.keep, q s' E y⟩) fun _ _ e => e
  generalize hq : backTo pos (starEach args env) = l at z hp
  cases l with
  | nil =>
    refine evalArgs_nil3 ?_
    have z' : wpAny (model P b.w) A (pure []) (fun vs s₁ => (Kb b).In s₁.heap ∧ wpAny (model P b.w) A (call f (first ++ vs)) (fun a s' => ∃ Fi σ', St b (Fi ++ F) L σ' s' ∧ Q a Fi σ') E s₁) E s := z
    exact ⟨G.k.keeps x.keep, fun Γ p hΓ => (z' Γ p hΓ).2 Γ p hΓ⟩
  | cons p r =>
    obtain ⟨st, t⟩ := p
    rw [List.any_cons, Bool.or_eq_false_iff] at hp
    have e : st = false := hp.1
    subst e
    exact evalArgs_plain z

/-- a call of a generator function makes the generator; its frame stays, out of sight -/
theorem vc_gen {f : Addr} {args : Args} {fd : FuncData} {body : List Stmt} {binds : List (Str × Value)} {Q : Value → Fs → Sg → Prop}
    (G : Glb b) (ho : (Kb b).lookup f = some { cls := .type "function", data := .func fd }) (hcd : codeIn (Kb b) fd.code fd.qualname = true) (hbody : fd.body = .stmts body) (hd : A.depth < recursionLimit) (hb : bindArgs fd args = pure binds)
    (h : ∀ L', CellK fd.scope.names fd.closure (σ.setM fun _ => none) fun cs σ₁ => BindK (fnEnv fd L' cs f) binds σ₁ fun σ₂ =>
      ∀ a gi, Q (.ref a) [(a, .gen gi (.fresh (.func body (fnEnv fd L' cs f)))), (L', .ns σ₂.m)] (σ₂.setM σ.m))
    (hco : fd.scope.isCoroutine = false := by with_unfolding_all rfl) (hgen : fd.scope.isGenerator = true := by with_unfolding_all rfl) (hk : fd.scope.kind = .function := by with_unfolding_all rfl) : VC b A F L (.call (.ref f) args) σ Q := by
  intro s R x hR
  refine codeAny_call_generator hd (x.keep _ _ (G.k _ _ ho)) rfl hco hgen hbody ((codeRec_of G.k hcd).keeps x.keep) ?_
  rw [hb]
  refine wpAny_pure ?_
  refine newEnv_any x hk fun L' => ?_
  refine CellK.mono (fun cs τ hτ => BindK.mono (fun τ₂ h₂ => ?_) _ _ hτ) _ _ _ (h L')
  intro s₂ x₂
  exact ⟨G.lim.keeps x₂.keep, hR _ _ _ _ x₂.swap.newGen (h₂ _ _)⟩
end
end PartC14

section PartC15
open PySem PySem.W PyProof.Rows PySem.Calls
set_option maxRecDepth 100000
set_option maxHeartbeats 400000
set_option linter.unusedVariables false

/-- how a wake of a generator that is to give rem ends -/
def EndP (b : Base) (a : Addr) (gi : Nat) (F : Fs) (L : Addr) (σ : Sg) (nx : List Value → Fs → GenState → Prop) : List Value → End → Shared → Prop
  | [], .ret x, s₁ => x = .ok (.ret .none) ∧ ∃ σ', St b ((a, .gen gi .running) :: F) L σ' s₁ ∧ ESt σ σ'
  | v :: rem, .susp v' g0 l k c p fs, s₁ => (End.susp v' g0 l k c p fs).quiet = true ∧ v' = v ∧ ∃ Fg' σ', St b ((a, .gen gi .running) :: (Fg' ++ F)) L σ' s₁ ∧ ESt σ σ' ∧ nx rem Fg' (End.susp v' g0 l k c p fs).genState
  | _, _, _ => False
theorem GI.of {b : Base} {a : Addr} {gi d : Nat} {K : Sg → Prop} {rem : List Value} {Fg : Fs} {gs : GenState}
    (h : ∀ A F L σ s, Rm A d → K σ → St b ((a, .gen gi .running) :: (Fg ++ F)) L σ s → Wk (model P b.w) A (EndP b a gi F L σ (GI b a gi d K) rem) gs s) : GI b a gi d K rem Fg gs := by
  cases rem with
  | nil =>
    intro A F L σ s h1 h2 h3
    have := h A F L σ s h1 h2 h3
    have e : (EndP b a gi F L σ (GI b a gi d K) []) = (fun e s₁ => match e with
      | .ret x => x = .ok (.ret .none) ∧ ∃ σ', St b ((a, .gen gi .running) :: F) L σ' s₁ ∧ ESt σ σ'
      | _ => False) := by funext e s₁; cases e <;> rfl
    rw [e] at this; exact this
  | cons v rem =>
    intro A F L σ s h1 h2 h3
    have := h A F L σ s h1 h2 h3
    have e : (EndP b a gi F L σ (GI b a gi d K) (v :: rem)) = (fun e s₁ => match e with
      | .susp v' g0 l k c p fs => (End.susp v' g0 l k c p fs).quiet = true ∧ v' = v ∧ ∃ Fg' σ', St b ((a, .gen gi .running) :: (Fg' ++ F)) L σ' s₁ ∧ ESt σ σ' ∧ GI b a gi d K rem Fg' (End.susp v' g0 l k c p fs).genState
      | _ => False) := by funext e s₁; cases e <;> rfl
    rw [e] at this; exact this

section
variable {b : Base} {A : Around} {F : Fs} {L : Addr} {σ : Sg} {env : Env} {Φ : End → Shared → Prop} {c : Code} {fs : List Frame} {K : Flow → Sem PySem.Fin} {H : Value → Sem PySem.Fin} {gd : Bool → Bool} {lv : List Value → List Value}
/-- one statement without a yield -/
theorem run_st {st : Stmt} {rest : List Stmt} {s : Shared} {Q : Flow → Sg → Prop} (x : St b F L σ s) (h : W b (A.over c fs) F L (execs [st] env) σ Q)
    (hk : ∀ f σ' s', St b F L σ' s' → Q f σ' → Run1 (model P b.w) A Φ c (match f with | .next => (execs rest env).wrap K H gd lv | f => K f) fs s') : Run1 (model P b.w) A Φ c ((execs (st :: rest) env).wrap K H gd lv) fs s := by
  rw [execs_cons_wrap]
  have e : (exec st env).wrap (fun f => match f with | .next => (execs rest env).wrap K H gd lv | f => K f) H gd lv
      = (execs [st] env).wrap (fun f => match f with | .next => (execs rest env).wrap K H gd lv | f => K f) H gd lv := by
    rw [execs_cons_wrap]
    exact Sem.wrap_congr _ _ _ (fun f => by cases f <;> rfl) (fun _ => rfl)
  show Run1 _ A Φ c ((exec st env).wrap (fun f => match f with | .next => (execs rest env).wrap K H gd lv | f => K f) H gd lv) fs s
  rw [e]
  exact run_wrap (wpAny_mono (h s _ x) (fun f s' ⟨σ', y, q⟩ => hk f σ' s' y q) fun _ _ e => e)
theorem run_loop {T : Expr} {B : List Stmt} {ι : Type} (meas : ι → Nat) (J : ι → Around → (End → Shared → Prop) → Shared → Prop)
    (step : ∀ i A Φ s, J i A Φ s → (∀ i' A' Φ' s', meas i' < meas i → J i' A' Φ' s' → Run1 (model P b.w) A' Φ' (.whileLoop T B [] env) ((model P b.w).den (.whileLoop T B [] env)) fs s') →
      Run1 (model P b.w) A Φ (.whileLoop T B [] env) ((model P b.w).den (.whileLoop T B [] env)) fs s) :
    ∀ i A Φ s, J i A Φ s → Run1 (model P b.w) A Φ (.whileLoop T B [] env) ((model P b.w).den (.whileLoop T B [] env)) fs s := by
  have key : ∀ n i, meas i < n → ∀ A Φ s, J i A Φ s → Run1 (model P b.w) A Φ (.whileLoop T B [] env) ((model P b.w).den (.whileLoop T B [] env)) fs s := by
    intro n
    induction n with
    | zero => intro i h; omega
    | succ n ih => intro i hi A Φ s hJ; exact step i A Φ s hJ fun i' A' Φ' s' h' hJ' => ih i' (by omega) A' Φ' s' hJ'
  exact fun i => key (meas i + 1) i (by omega)
/-- for x in reversed(xs) -/
theorem w_forRev {x : Str} {px : Pos} {iter body pos rest} {Q : Flow → Sg → Prop} (hh : A.handled = none) (J : Nat → Sg → Prop)
    (h : W b A F L (eval iter env) σ fun xv σ₁ => ∃ a l xs, xv = .ref a ∧ σ₁.at_ a = some (.obj (revObj l ((xs.length : Int) - 1))) ∧ J 0 (σ₁.del a) ∧ (∀ i τ, J i τ → τ.at_ l = some (.lst xs)) ∧
      (∀ i v τ Fa, J i τ → xs.reverse[i]? = some v → W b A (Fa ++ F) L (storeName env x v) τ fun _ τ' => W b A (Fa ++ F) L (execs body env) τ' (turnK (J (i + 1)) (fun σ₃ => W b A F L (execs rest env) σ₃ Q) Q)) ∧
      (∀ τ, J xs.length τ → W b A F L (execs rest env) τ Q))
    (hs : ∀ x, foldedSetIterable iter env x = pure x := by intro _; with_unfolding_all rfl) : W b A F L (execs (.For (.Name x px) iter body [] pos :: rest) env) σ Q := by
  refine w_consFor (W.mono h fun xv σ₁ ⟨a, l, xs, e, ha, h0, hl, step, fin⟩ => ?_) hs
  subst e
  refine iter_rev ha ⟨fun n Fi τ => ∃ i, Fi = [(a, .cl (rvObj l (((xs.length - i : Nat) : Int) - 1)))] ∧ i ≤ xs.length ∧ n = xs.length - i ∧ J i τ, xs.length, ⟨0, rfl, Nat.zero_le _, rfl, h0⟩, ?_⟩
  rintro n _ τ ⟨i, rfl, hi, rfl, hJ⟩
  refine next_rev hh (hl i _ hJ) (by omega) (fun hx => ?_) fun k v hk hv => ?_
  · have : i = xs.length := by omega
    subst this
    exact fin _ hJ
  · have hrv : xs.reverse[i]? = some v := by
      rw [List.getElem?_reverse (by omega)]
      rw [show xs.length - 1 - i = k by omega]; exact hv
    refine ⟨.one, W.mono (step i v τ [(a, .cl (rvObj l ((k : Int) - 1)))] hJ hrv) fun _ τ' q => W.mono q fun fl σ₃ q => ?_⟩
    have ek : k = xs.length - (i + 1) := by omega
    cases fl with
    | next => exact ⟨_, by omega, i + 1, by rw [ek], by omega, rfl, q⟩
    | cont => exact ⟨_, by omega, i + 1, by rw [ek], by omega, rfl, q⟩
    | brk => exact q
    | ret v => exact q
/-- a generator's frame comes in sight, with one list of its own -/
theorem St.wake1 {s : Shared} {a Lg ls : Addr} {k : Kp} {mg : NsMap} {cl : Cl} (x : St b ((a, k) :: (Lg, .ns mg) :: (ls, .cl cl) :: F) L σ s) :
    σ.at_ ls = none ∧ St b ((L, .ns σ.m) :: (a, k) :: F) Lg ((σ.setM mg).put ls cl) s := by
  have y := x.perm (F' := (Lg, .ns mg) :: (ls, .cl cl) :: (a, k) :: F) (by
    refine (List.Perm.swap _ _ _).trans (List.Perm.cons _ (List.Perm.swap _ _ _)))
  have z := (y.swap.perm (F' := (ls, .cl cl) :: (L, .ns σ.m) :: (a, k) :: F) (List.Perm.swap _ _ _)).show
  exact ⟨z.1, z.2⟩
theorem St.sleep1 {s : Shared} {a Lg ls : Addr} {k : Kp} {m : NsMap} {cl : Cl} (x : St b ((L, .ns m) :: (a, k) :: F) Lg σ s) (h : σ.at_ ls = some cl) :
    St b ((a, k) :: (Lg, .ns σ.m) :: (ls, .cl cl) :: F) L ((σ.del ls).setM m) s := by
  have y := (x.hide h).perm (F' := (L, .ns m) :: (ls, .cl cl) :: (a, k) :: F) (List.Perm.swap _ _ _)
  exact y.swap.perm (by
    refine (List.Perm.cons _ (List.Perm.swap _ _ _)).trans (List.Perm.swap _ _ _))
theorem St.wake0 {s : Shared} {a Lg : Addr} {k : Kp} {mg : NsMap} (x : St b ((a, k) :: (Lg, .ns mg) :: F) L σ s) :
    St b ((L, .ns σ.m) :: (a, k) :: F) Lg (σ.setM mg) s :=
  (x.perm (F' := (Lg, .ns mg) :: (a, k) :: F) (List.Perm.swap _ _ _)).swap
end
end PartC15

section PartC16
open PySem PySem.W PyProof.Rows PySem.Calls
set_option maxRecDepth 100000
set_option maxHeartbeats 400000
set_option linter.unusedVariables false

local macro_rules | `(tactic| k_clsL) => `(tactic| first
  | with_reducible assumption
  | (with_reducible show Sg.m (Sg.setL _ _ _) _ = some _; first | with_reducible exact getL_same | (apply getL_skip; with_unfolding_all decide; k_clsL))
  | (with_reducible show Sg.m (Sg.put _ _ _) _ = some _; apply putM; k_clsL)
  | (with_reducible show Sg.m (Sg.del _ _) _ = some _; apply delM; k_clsL)
  | (with_reducible show Sg.m (Sg.setM _ _) _ = some _; apply setMM; k_clsL)
  | (apply viaM; with_reducible assumption; k_clsL)
  | (apply viaE; with_reducible assumption; k_clsL))
local macro_rules | `(tactic| k_offL) => `(tactic| first
  | with_reducible assumption
  | with_reducible exact Ext.rfl
  | (with_reducible show Ext _ (Sg.setL _ _ _); refine Ext.setL ?_; k_offL)
  | (with_reducible show Ext _ (Sg.put _ _ _); refine Ext.put ?_ (by first | with_reducible assumption | with_reducible exact setA (by with_reducible assumption)); k_offL)
  | (with_reducible show Ext _ (Sg.setM _ _); refine Ext.setM ?_; k_offL)
  | (with_reducible refine Ext.tr (by with_reducible assumption) ?_; k_offL)
  | (with_reducible refine Ext.tr2 (by with_reducible assumption) ?_; k_offL))
local macro_rules | `(tactic| k_places) => `(tactic| first
  | with_reducible assumption
  | with_reducible exact putA_same
  | (with_reducible show Sg.at_ (Sg.setL _ _ _) _ = some _; apply setA; k_places)
  | (with_reducible show Sg.at_ (Sg.setM _ _) _ = some _; apply setMA; k_places)
  | (with_reducible show Sg.at_ (Sg.put _ _ _) _ = some _; apply putA_new; with_reducible assumption; k_places)
  | (apply ESt.at_; with_reducible assumption; k_places)
  | (apply Ext.at'; with_reducible assumption; k_places))
local macro_rules | `(tactic| k_subL) => `(tactic| first
  | (with_reducible show W _ _ _ _ (spliced (backTo _ (starEach [] _))) _ _; refine w_items0 ?_)
  | (with_reducible show W _ _ _ _ (spliced (backTo _ (starEach (_ :: _) _))) _ _; refine w_items ?_)
  | (with_reducible show W _ _ _ _ (eval (Expr.Name _ _) _) _ _; first | refine w_local (by with_unfolding_all rfl) (by k_clsL) ?_ | refine w_cell (by with_unfolding_all rfl) (by k_places) ?_ | (with_reducible show W _ _ _ _ (eval (Expr.Name ("Tree" : Str) _) _) _ _; refine w_glob (v := .ref 142) (by assumption) (by kernel_rfl) ?_) | (with_reducible show W _ _ _ _ (eval (Expr.Name ("Token" : Str) _) _) _ _; refine w_glob (v := .ref 45) (by assumption) (by kernel_rfl) ?_))
  | (with_reducible show W _ _ _ _ (eval (Expr.Call (Expr.Name ("isinstance" : Str) _) _ [] _) _) _ _; refine w_callB (n := "isinstance") (by assumption) boot_isi (by kernel_rfl) ?_)
  | (with_reducible show W _ _ _ _ (eval (Expr.Call (Expr.Name ("len" : Str) _) _ [] _) _) _ _; refine w_callB (n := "len") (by assumption) boot_len (by kernel_rfl) ?_)
  | (with_reducible show W _ _ _ _ (eval (Expr.Call (Expr.Name ("min" : Str) _) _ [] _) _) _ _; refine w_callB (n := "min") (by assumption) boot_min (by kernel_rfl) ?_)
  | (with_reducible show W _ _ _ _ (eval (Expr.Call (Expr.Name ("range" : Str) _) _ [] _) _) _ _; refine w_callT (n := "range") (by assumption) boot_range (by kernel_rfl) ?_)
  | (with_reducible show W _ _ _ _ (eval (Expr.Call (Expr.Name ("str" : Str) _) _ [] _) _) _ _; refine w_callT (n := "str") (by assumption) boot_str (by kernel_rfl) ?_)
  | (with_reducible show W _ _ _ _ (eval (Expr.Call (Expr.Name ("list" : Str) _) _ [] _) _) _ _; refine w_callT (n := "list") (by assumption) boot_list (by kernel_rfl) ?_)
  | (with_reducible show W _ _ _ _ (eval (Expr.Call (Expr.Name ("reversed" : Str) _) _ [] _) _) _ _; refine w_callT (n := "reversed") (by assumption) boot_rev (by kernel_rfl) ?_)
  | (with_reducible show W _ _ _ _ (eval (Expr.Call (Expr.Name ("filter" : Str) _) _ [] _) _) _ _; refine w_callT (n := "filter") (by assumption) boot_filter (by kernel_rfl) ?_)
  | (with_reducible show W _ _ _ _ (call (.builtin "len") [.ref _]) _ _; (refine w_len (by k_places) ?_ fun _ => ?_); rotate_left)
  | (with_reducible show W _ _ _ _ (binaryOp .Add (.int _ _) (.int _ _)) _ _; refine w_addI fun _ => ?_)
  | (with_reducible show W _ _ _ _ (binaryOp .Sub (.int _ _) (.int _ _)) _ _; refine w_subI fun _ => ?_)
  | (with_reducible show W _ _ _ _ (compareOp .Eq (.int _ _) (.int _ _)) _ _; refine w_eqI ?_)
  | (with_reducible show W _ _ _ _ (compareOp .NotEq (.int _ _) (.int _ _)) _ _; refine w_neI ?_)
  | (with_reducible show W _ _ _ _ (compareOp .Lt (.int _ _) (.int _ _)) _ _; refine w_ltI ?_)
  | (with_reducible show W _ _ _ _ (compareOp .Eq (.str _ _) (.str _ _)) _ _; refine w_eqS ?_)
  | (with_reducible show W _ _ _ _ (compareOp .NotEq (.bool _) (.bool _)) _ _; refine w_neB ?_)
  | (with_reducible show W _ _ _ _ (unaryOp .USub (.int _ _)) _ _; refine w_negI fun _ => ?_)
  | (with_reducible show W _ _ _ _ (unaryOp .Not _) _ _; refine w_notv ?_)
  | (with_reducible show W _ _ _ _ (eval (Expr.Attribute _ _ _) _) _ _; refine w_attr ?_)
  | (with_reducible show W _ _ _ _ (eval (Expr.List _ _) _) _ _; refine w_list ?_)
  | (with_reducible show W _ _ _ _ (eval (Expr.Tuple _ _ _) _) _ _; refine w_tuple ?_)
  | (with_reducible show W _ _ _ _ (eval (Expr.BinOp _ _ _ _) _) _ _; refine w_binop ?_)
  | (with_reducible show W _ _ _ _ (eval (Expr.Compare _ [_] [_] _) _) _ _; refine w_cmp ?_)
  | (with_reducible show W _ _ _ _ (eval (Expr.IfExp _ _ _ _) _) _ _; refine w_ifexp ?_)
  | (with_reducible show W _ _ _ _ (eval (Expr.Subscript _ _ _) _) _ _; refine w_sub ?_)
  | (with_reducible show W _ _ _ _ (eval (Expr.UnaryOp _ _ _) _) _ _; refine w_unop ?_)
  | (with_reducible show W _ _ _ _ (eval (Expr.Constant .none _ _) _) _ _; refine w_none ?_)
  | (with_reducible show W _ _ _ _ (eval (Expr.Constant (.bool _) _ _) _) _ _; refine w_tf ?_)
  | (with_reducible show W _ _ _ _ (eval (Expr.Constant (.int _) _ _) _) _ _; refine w_int ?_; intro _)
  | (with_reducible show W _ _ _ _ (eval (Expr.Constant (.str _) _ _) _) _ _; refine w_str ?_; intro _)
  | (with_reducible show W _ _ _ _ (execs [] _) _ _; refine w_nil ?_)
  | (with_reducible show W _ _ _ _ (execs (Stmt.Assign [Expr.Name _ _] (Expr.ListComp _ [Comprehension.mk _ _ _ _] _ _) _ :: _) _) _ _; refine w_cons (w_assignComp ?_))
  | (with_reducible show W _ _ _ _ (execs (Stmt.Assign [Expr.Name _ _] _ _ :: _) _) _ _; refine w_consA ?_)
  | (with_reducible show W _ _ _ _ (execs (Stmt.Assign [Expr.Attribute _ _ _] _ _ :: _) _) _ _; refine w_consAttr ?_)
  | (with_reducible show W _ _ _ _ (execs (Stmt.Assign [Expr.Subscript _ _ _] _ _ :: _) _) _ _; refine w_consSub ?_)
  | (with_reducible show W _ _ _ _ (execs (Stmt.If _ _ [] _ :: _) _) _ _; refine w_consIf ?_)
  | (with_reducible show W _ _ _ _ (execs (Stmt.If _ _ _ _ :: _) _) _ _; refine w_consElse ?_)
  | (with_reducible show W _ _ _ _ (execs (Stmt.Return (some _) _ :: _) _) _ _; refine w_consRet ?_)
  | (with_reducible show W _ _ _ _ (execs (Stmt.Break _ :: _) _) _ _; refine w_consBrk ?_)
  | (with_reducible show W _ _ _ _ (execs (Stmt.Continue _ :: _) _) _ _; refine w_consCont ?_)
  | (with_reducible show W _ _ _ _ (execs (Stmt.Expr (Expr.Call (Expr.Attribute _ _ _) [_] [] _) _ :: _) _) _ _; refine w_consApp ?_)
  | (with_reducible show W _ _ _ _ (execs (Stmt.Expr _ _ :: _) _) _ _; refine w_consE ?_)
  | (with_reducible show W _ _ _ _ (isTrue (Expr.UnaryOp .Not _ _) _ _) _ _; refine w_not ?_)
  | (with_reducible show W _ _ _ _ (isTrue (Expr.BoolOp _ _ _) _ _) _ _; refine w_bool ?_)
  | (with_reducible show W _ _ _ _ (allTrue .And [] _) _ _; refine w_andNil ?_)
  | (with_reducible show W _ _ _ _ (allTrue .Or [] _) _ _; refine w_orNil ?_)
  | (with_reducible show W _ _ _ _ (allTrue .And (_ :: _) _) _ _; refine w_and ?_)
  | (with_reducible show W _ _ _ _ (allTrue .Or (_ :: _) _) _ _; refine w_or ?_)
  | (with_reducible show W _ _ _ _ (isTrue (Expr.Compare _ [_] [_] _) _ _) _ _; refine w_tcmp ?_)
  | (with_reducible show W _ _ _ _ (isTrue _ _ _) _ _; refine w_tval ?_)
  | (with_reducible show W _ _ _ _ (storeName _ _ _) _ _; first | refine w_storeL (by with_unfolding_all rfl) ?_ | refine w_storeC (by with_unfolding_all rfl) (by k_places) ?_)
  | (with_reducible show W _ _ _ _ (tests [_] _) _ _; refine w_tests1 ?_)
  | (with_reducible show W _ _ _ _ (tests [] _) _ _; refine w_tests0 ?_)
  | (with_reducible show W _ _ _ _ (eval (Expr.ListComp _ [Comprehension.mk _ _ _ _] _ _) _) _ _; refine w_listcomp ?_)
  | (with_reducible show W _ _ _ _ (truthy (.bool _)) _ _; refine w_truthyB ?_)
  | (with_reducible show thenK _ _ Flow.next _; refine thenK_next ?_)
  | (with_reducible show thenK _ _ Flow.brk _; refine thenK_brk ?_)
  | (with_reducible show thenK _ _ Flow.cont _; refine thenK_cont ?_)
  | (with_reducible show thenK _ _ (Flow.ret _) _; refine thenK_ret ?_)
  | (with_reducible show turnK _ _ _ Flow.next _; refine turnK_next ?_)
  | (with_reducible show turnK _ _ _ Flow.brk _; refine turnK_brk ?_)
  | (with_reducible show turnK _ _ _ Flow.cont _; refine turnK_cont ?_)
  | (with_reducible show turnK _ _ _ (Flow.ret _) _; refine turnK_ret ?_))

/-- how many things a walk down from a meets -/
def gall (g : Gf) : Nat → Addr → Nat
  | 0, _ => 1
  | n + 1, a => match g a with
    | some (.node d l nm ks) => 1 + (ks.map (gall g n)).sum
    | _ => 1
theorem node_of {g : Gf} {a : Addr} (h : isTree g a = true) : ∃ d l nm ks, g a = some (.node d l nm ks) := by
  unfold isTree at h
  split at h
  · rename_i d l nm ks e; exact ⟨d, l, nm, ks, e⟩
  · cases h
theorem snoc_or {α : Type} (l : List α) : l = [] ∨ ∃ k x, l = k ++ [x] := by
  rcases l.eq_nil_or_concat with h | ⟨k, x, h⟩
  · exact .inl h
  · exact .inr ⟨k, x, by rw [h, List.concat_eq_append]⟩
theorem gall_pos (g : Gf) (n : Nat) (a : Addr) : 1 ≤ gall g n a := by
  cases n with
  | zero => exact Nat.le_refl _
  | succ n => unfold gall; split <;> omega
theorem gall_len (g : Gf) (n : Nat) : ∀ st : List Addr, st.length ≤ (st.map (gall g n)).sum
  | [] => Nat.le_refl _
  | y :: st => by have := gall_pos g n y; have := gall_len g n st; simp only [List.map_cons, List.sum_cons, List.length_cons]; omega
theorem gall_st {g : Gf} : ∀ n a, Dp g n a → gall g (n + 1) a = gall g n a := by
  intro n
  induction n with
  | zero => intro a ⟨d, k, v, e⟩; unfold gall; rw [e]
  | succ n ih =>
    intro a h
    unfold Dp at h
    rw [gall, gall]
    split
    · rename_i d l nm ks e
      rw [e] at h
      dsimp only at h
      congr 2
      exact List.map_congr_left fun k hk => ih k (h k hk)
    · rfl
theorem dp_pred {g : Gf} {N : Nat} {a d l : Addr} {nm : Str} {ks : List Addr} (h : Dp g N a) (e : g a = some (.node d l nm ks)) : ∃ n, N = n + 1 ∧ ∀ k ∈ ks, Dp g n k := by
  cases N with
  | zero => obtain ⟨_, _, _, e'⟩ := h; rw [e] at e'; cases e'
  | succ n => unfold Dp at h; rw [e] at h; exact ⟨n, rfl, h⟩
theorem Fing.gal {g : Gf} {N : Nat} (Fg : Fing g N) {a d l : Addr} {nm : Str} {ks : List Addr} (e : g a = some (.node d l nm ks)) : gall g N a = 1 + (ks.map (gall g N)).sum := by
  obtain ⟨n, rfl, h⟩ := dp_pred (Fg.dp _ _ e) e
  rw [gall, e]
  dsimp only
  congr 2
  exact List.map_congr_left fun k hk => (gall_st n k (h k hk)).symm
theorem gdown_tok {g : Gf} {a : Addr} (h : isTree g a = false) : ∀ N, gdown g N a = []
  | 0 => rfl
  | n + 1 => by
    unfold isTree at h
    unfold gdown
    split
    · rename_i e; rw [e] at h; cases h
    · rfl

theorem rm_over1 {A : Around} {n : Nat} {c c' : Code} {p : Pos} {k : Result → Sem PySem.Fin} {l : List Value} {kp : List Value} (R : Rm A (n + 1)) (h1 : c.weight = 1 ∧ c.cUnits = 3) (h2 : c'.weight = 0 ∧ c'.cUnits = 0) : Rm (A.over c' [.ret k none false l c p kp]) n := by
  have r := R.r
  refine ⟨⟨r.handled, ?_, ?_⟩⟩
  · have := r.depth
    show A.depth + (c.weight + 0) + c'.weight + (n + 5) < _
    rw [h1.1, h2.1]; omega
  · have := r.units
    show A.units + (c.cUnits + 0) + c'.cUnits + (8 * n + 200) < _
    rw [h1.2, h2.2]; omega
theorem rm_over0 {A : Around} {n : Nat} {c : Code} (R : Rm A (n + 1)) (h1 : c.weight = 1 ∧ c.cUnits = 3) : Rm (A.over c []) n := by
  have r := R.r
  refine ⟨⟨r.handled, ?_, ?_⟩⟩
  · have := r.depth
    show A.depth + 0 + c.weight + (n + 5) < _
    rw [h1.1]; omega
  · have := r.units
    show A.units + 0 + c.cUnits + (8 * n + 200) < _
    rw [h1.2]; omega

section
variable {b : Base} {A : Around} {F : Fs} {L : Addr} {σ : Sg} {env : Env} {Φ : End → Shared → Prop} {fs : List Frame}
theorem run_wh {T : Expr} {B : List Stmt} {s : Shared} {Q : Bool → Sg → Prop} (x : St b F L σ s) (h : W b (A.over (.whileLoop T B [] env) fs) F L (isTrue T env (eval T env)) σ Q)
    (ht : ∀ σ' s', St b F L σ' s' → Q true σ' → Run1 (model P b.w) A Φ (.whileLoop T B [] env) ((execs B env).wrap (fun f => match f with
            | .next | .cont => .pure (.again (.whileLoop T B [] env))
            | .brk => .pure (.done .next)
            | .ret v => .pure (.done (.ret v))) (fun e => (do noteFrame e env; theTreesLotGoes e : Sem Unit).wrap (fun _ => .raise e) .raise id id) id id) fs s')
    (hf : ∀ σ' s', St b F L σ' s' → Q false σ' → Run1 (model P b.w) A Φ (.whileLoop T B [] env) (.pure (.done .next)) fs s') :
    Run1 (model P b.w) A Φ (.whileLoop T B [] env) ((model P b.w).den (.whileLoop T B [] env)) fs s := by
  refine run_whileLoop (wpAny_mono (h s _ x) (fun t s' ⟨σ', y, q⟩ => ?_) fun _ _ e => e)
  cases t with
  | true => rw [if_pos rfl]; exact ht σ' s' y q
  | false => rw [if_neg Bool.false_ne_true]; exact run_nil (hf σ' s' y q)
theorem run_yl {e : Expr} {ypos pos : Pos} {rest : List Stmt} {s : Shared} {c : Code} {K : Flow → Sem PySem.Fin} {H : Value → Sem PySem.Fin} {lv : List Value → List Value} {Q : Value → Sg → Prop} (hfs : splitAtGen fs = none) (x : St b F L σ s) (h : W b (A.over c fs) F L (eval e env) σ Q)
    (hk : ∀ v σ' s', St b F L σ' s' → Q v σ' → ∀ l k p, (∀ Φ' A' s'', Run1 (model P b.w) A' Φ' c ((execs rest env).wrap K H id lv) fs s'' → Run1 (model P b.w) A' Φ' c (k (.send .none)) fs s'') → Φ (.susp v false l k c p fs) s')
    (hco : env.scope.isCoroutine = false := by rfl) (hi : interactive env = false := by rfl) :
    Run1 (model P b.w) A Φ c ((execs (.Expr (.Yield (some e) ypos) pos :: rest) env).wrap K H id lv) fs s := by
  refine run_cons (run_Yield hfs (wpAny_mono (h s _ x) (fun v s' ⟨σ', y, q⟩ => fun g l k p hg hh => ?_) fun _ _ e => e) hco hi)
  subst hg
  exact hk v σ' s' y q l k p hh
end

theorem top_gi {b : Base} (G : Glb b) {g : Gf} {N : Nat} (Fg : Fing g N) {d x : Nat} (hx : isTree g x = true) (hz : gall g N x ≤ 2 ^ 20) {f : Addr} {cs : List (Str × Addr)} {Lg a gi : Nat} {mg : NsMap} {body : List Stmt} (hb : fTop.1.body = .stmts body) (hm : mg "self" = some (.ref x)) :
    GI b a gi (d + 1) (fun σ => Gr σ g) ((gdown g N x).map .ref) [(Lg, .ns mg)] (.fresh (.func body (fnEnv fTop.1 Lg cs f))) := by
  have hb' := FuncBody.stmts.inj (show FuncBody.stmts _ = FuncBody.stmts body from hb)
  subst hb'
  refine GI.of fun A F L σ s R hG y => ?_
  show Run1 _ A _ (.func _ _) _ [] s
  refine run_func ?_
  have y1 := y.wake0
  refine run_st (Q := fun fl τ => ∃ ls, fl = .next ∧ σ.at_ ls = none ∧ Ext σ τ ∧ τ.at_ ls = some (.lst [.ref x]) ∧ τ.m "stack" = some (.ref ls)) y1 ?_ ?_
  · repeat k_subL
    refine w_newList (by rw [sizeLine_eq]; simp) fun ls hls => ?_
    repeat k_subL
    exact ⟨ls, rfl, hls, by k_offL, by k_places, by k_clsL⟩
  · rintro fl τ s1 z ⟨ls, rfl, hls, hE, hst, hmst⟩
    refine run_cons (run_While fun p => ?_)
    have z1 := z.sleep1 hst
    have hEd : ESt σ ((τ.del ls).setM σ.m) := ⟨⟨fun y c e => by
      have : y ≠ ls := fun q => by rw [q, hls] at e; cases e
      show (τ.del ls).at_ y = _
      simp only [Sg.del, if_neg this]
      exact hE.at_ _ _ e, hE.gens⟩, rfl⟩
    refine run_loop (fun st : List Addr => (st.map (gall g N)).sum) (fun st A Φ s => ∃ F L σ₀ σ mg, Rm A (d + 1) ∧ Gr σ g ∧ ESt σ₀ σ ∧ Φ = EndP b a gi F L σ₀ (GI b a gi (d + 1) (fun σ => Gr σ g)) ((st.reverse.flatMap (gdown g N)).map .ref) ∧
      mg "stack" = some (.ref ls) ∧ (∀ x ∈ st, ∃ nd, g x = some nd) ∧ (st.map (gall g N)).sum ≤ 2 ^ 20 ∧ St b ((a, .gen gi .running) :: (Lg, .ns mg) :: (ls, .cl (.lst (st.map .ref))) :: F) L σ s) ?_ [x] A _ s1 ?_
    · clear hEd hst hmst hE z1 z hls y1 y hG R
      rintro st A Φ s ⟨F, L, σ₀, σ, mg, R, hG, hE, rfl, hmst, hnd, hsz, y⟩ ih
      obtain ⟨hls, y1⟩ := y.wake1
      have hEτ : Ext σ ((σ.setM mg).put ls (.lst (st.map .ref))) := Ext.putN (Ext.setM Ext.rfl) hls
      have hτl : ((σ.setM mg).put ls (.lst (st.map .ref))).at_ ls = some (.lst (st.map .ref)) := putA_same
      have hτm : ((σ.setM mg).put ls (.lst (st.map .ref))).m "stack" = some (.ref ls) := hmst
      generalize ((σ.setM mg).put ls (.lst (st.map .ref))) = τ at y1 hEτ hτl hτm
      have hlen : st.length ≤ 2 ^ 20 := by
        exact Nat.le_trans (gall_len g N st) hsz
      have back : ∀ τ', Ext σ τ' → ESt σ₀ ((τ'.del ls).setM σ.m) := fun τ' h => ⟨⟨fun y c e => by
        have h1 := hE.1.at_ _ _ e
        have : y ≠ ls := fun q => by rw [q, hls] at h1; cases h1
        show (τ'.del ls).at_ y = _
        simp only [Sg.del, if_neg this]
        exact h.at_ _ _ h1, (hE.1.trans h).gens⟩, hE.2⟩
      refine run_wh (Q := fun t τ' => t = (!st.isEmpty) ∧ τ' = τ) y1 ?_ ?_ ?_
      · repeat k_subL
        refine w_truthyL hτl (by simp only [List.length_map]; omega) ⟨?_, rfl⟩
        cases st <;> rfl
      · rintro τ' s' y' ⟨ht, rfl⟩
        rcases snoc_or st with rfl | ⟨st0, v, rfl⟩
        · cases ht
        have hgs : ((st0 ++ [v]).map (gall g N)).sum = (st0.map (gall g N)).sum + gall g N v := by simp
        rw [hgs] at hsz
        simp only [hgs] at ih
        obtain ⟨nd, hv⟩ := hnd v (by simp)
        have hgl := gall_pos g N v
        simp only [List.length_append, List.length_cons, List.length_nil] at hlen
        rw [List.map_append] at hτl
        refine run_st (Q := fun fl τ1 => fl = .next ∧ Ext σ τ1 ∧ τ1.at_ ls = some (.lst (st0.map .ref)) ∧ τ1.m "stack" = some (.ref ls) ∧ τ1.m "node" = some (.ref v)) y' ?_ ?_
        · repeat k_subL
          refine w_callM ?_
          repeat k_subL
          refine w_gmPop hτl (w_cwB ?_)
          repeat k_subL
          refine w_pop (xs := st0.map .ref) (v := .ref v) hτl (by rw [sizeLine_eq]; simp only [List.length_map]; omega) ?_
          repeat k_subL
          exact ⟨rfl, Ext.setL (Ext.putN hEτ hls), setA putA_same, by k_clsL, by k_clsL⟩
        rintro fl τ1 s2 y2 ⟨rfl, hE1, hl1, hm1, hn1⟩
        refine run_st (Q := fun fl τ2 => fl = (if isTree g v then .next else .cont) ∧ τ2 = τ1) y2 ?_ ?_
        · repeat k_subL
          refine w_isTree (nd := nd) G ((hG v nd hv).ext hE1) ?_
          have hTn := isTree_of hv
          repeat k_subL
          refine ⟨fun hb => ?_, fun hb => ?_⟩
          · repeat k_subL
            refine ⟨?_, rfl⟩
            rw [hTn]; simp at hb; simp [hb]
          · repeat k_subL
            refine ⟨?_, rfl⟩
            rw [hTn]; simp at hb; simp [hb]
        rintro fl τ2 s3 y3 ⟨rfl, rfl⟩
        by_cases hT : isTree g v = true
        · rw [if_pos hT]
          obtain ⟨dv, lv, nm, ks, hgv⟩ := node_of hT
          have hga := Fg.gal hgv
          have hgd := Fg.down _ _ _ _ _ hgv
          refine run_yl (Q := fun vv τ3 => vv = .ref v ∧ τ3 = τ2) rfl y3 ?_ ?_
          · repeat k_subL
            exact ⟨rfl, rfl⟩
          rintro _ τ3 s4 y4 ⟨rfl, rfl⟩ l k p' hk
          have hflat : (((st0 ++ [v]).reverse.flatMap (gdown g N)).map Value.ref) = .ref v :: (((st0 ++ ks.reverse).reverse.flatMap (gdown g N)).map .ref) := by
            rw [List.reverse_append, List.reverse_cons, List.reverse_nil, List.nil_append, List.flatMap_append, List.flatMap_cons, hgd]; simp
          rw [hflat]
          refine ⟨rfl, rfl, [(Lg, .ns τ3.m), (ls, .cl (.lst (st0.map .ref)))], (τ3.del ls).setM σ.m, y4.sleep1 hl1, back _ hE1, GI.of fun A2 F2 L2 σ2 s5 R2 hG2 y5 => hk _ _ _ ?_⟩
          obtain ⟨hls2, y6⟩ := y5.wake1
          have hEτ2 : Ext σ2 ((σ2.setM τ3.m).put ls (.lst (st0.map .ref))) := Ext.putN (Ext.setM Ext.rfl) hls2
          have hl2 : ((σ2.setM τ3.m).put ls (.lst (st0.map .ref))).at_ ls = some (.lst (st0.map .ref)) := putA_same
          have hm2 : ((σ2.setM τ3.m).put ls (.lst (st0.map .ref))).m "stack" = some (.ref ls) := hm1
          have hn2 : ((σ2.setM τ3.m).put ls (.lst (st0.map .ref))).m "node" = some (.ref v) := hn1
          generalize ((σ2.setM τ3.m).put ls (.lst (st0.map .ref))) = τ at y6 hEτ2 hl2 hm2 hn2
          have hkl : ks.length ≤ (ks.map (gall g N)).sum := gall_len g N ks
          refine run_st (Q := fun fl τ1 => fl = .next ∧ Ext σ2 τ1 ∧ τ1.at_ ls = some (.lst ((st0 ++ ks.reverse).map .ref)) ∧ τ1.m "stack" = some (.ref ls)) y6 ?_ ?_
          · refine w_forRev (rm_over1 R2 ⟨rfl, rfl⟩ ⟨rfl, rfl⟩).hh (fun i τ' => Ext σ2 τ' ∧ τ'.at_ ls = some (.lst ((st0 ++ ks.reverse.take i).map .ref)) ∧ τ'.m "stack" = some (.ref ls)) ?_
            repeat k_subL
            refine w_children G ((hG2 v _ hgv).ext hEτ2) ?_
            have hlx := ((hG2 v _ hgv).ext hEτ2).2
            repeat k_subL
            refine w_reversed hlx fun rv hrv => ?_
            refine ⟨rv, lv, ks.map .ref, rfl, putA_same, ?_, fun i τ' hJ => ((hG2 v _ hgv).ext hJ.1).2, fun i w τ' Fa hJ hw => ?_, fun τ' hJ => ?_⟩
            · rw [Sg.del_put hrv]; exact ⟨hEτ2, by simpa using hl2, hm2⟩
            · rw [← List.map_reverse] at hw
              obtain ⟨c, rfl, hc⟩ := kidAt hw
              obtain ⟨hE3, hl3, hm3⟩ := hJ
              repeat k_subL
              refine ⟨ls, _, rfl, setA hl3, ?_⟩
              repeat k_subL
              refine ⟨_, setA hl3, ?_, ?_⟩
              · rw [sizeLine_eq]; simp only [List.length_map, List.length_append, List.length_take, List.length_reverse]; omega
              repeat k_subL
              refine ⟨Ext.putN (Ext.setL hE3) hls2, ?_, ?_⟩
              · rw [List.take_add_one, hc, show (st0 ++ (ks.reverse.take i ++ (some c).toList)).map Value.ref = (st0 ++ ks.reverse.take i).map .ref ++ [.ref c] by simp]; exact putA_same
              · k_clsL
            · obtain ⟨hE3, hl3, hm3⟩ := hJ
              rw [List.length_map, ← List.length_reverse, List.take_length] at hl3
              repeat k_subL
              exact ⟨rfl, hE3, hl3, hm3⟩
          rintro fl τ1 s6 y7 ⟨rfl, hE7, hl7, hm7⟩
          refine run_nil (run_again rfl ?_)
          have hE8 : ESt σ2 ((τ1.del ls).setM σ2.m) := ⟨⟨fun y c e => by
            have : y ≠ ls := fun q => by rw [q, hls2] at e; cases e
            show (τ1.del ls).at_ y = _
            simp only [Sg.del, if_neg this]
            exact hE7.at_ _ _ e, hE7.gens⟩, rfl⟩
          have hsum : ((st0 ++ ks.reverse).map (gall g N)).sum = (st0.map (gall g N)).sum + (ks.map (gall g N)).sum := by
            rw [List.map_append, List.sum_append, List.map_reverse, List.sum_reverse]
          refine ih (st0 ++ ks.reverse) A2 _ _ (by omega) ⟨F2, L2, σ2, (τ1.del ls).setM σ2.m, τ1.m, R2, hG2.ext hE8.1, hE8, rfl, hm7, ?_, by omega, y7.sleep1 hl7⟩
          intro y hy
          rcases List.mem_append.mp hy with hy | hy
          · exact hnd y (by simp [hy])
          · exact Fg.kid _ _ _ _ _ hgv y (List.mem_reverse.mp hy)
        · rw [if_neg hT]
          refine run_again rfl ?_
          have hT' : isTree g v = false := by simpa using hT
          refine ih st0 A _ _ (by omega) ⟨F, L, σ₀, (τ2.del ls).setM σ.m, τ2.m, R, ?_, back _ hE1, ?_, hm1, ?_, ?_, y3.sleep1 hl1⟩
          · exact hG.ext ⟨fun y c e => by
              have : y ≠ ls := fun q => by rw [q, hls] at e; cases e
              show (τ2.del ls).at_ y = _
              simp only [Sg.del, if_neg this]
              exact hE1.at_ _ _ e, hE1.gens⟩
          · rw [List.reverse_append, List.reverse_cons, List.reverse_nil, List.nil_append, List.flatMap_append, List.flatMap_cons, gdown_tok hT']; simp
          · intro y hy; exact hnd y (by simp [hy])
          · omega
      · rintro τ' s' y' ⟨ht, rfl⟩
        have : st = [] := by cases st; rfl; cases ht
        subst this
        refine run_leaf (.ok .next) ?_
        refine run_end (.ok (.ret .none)) ?_
        refine ⟨rfl, (τ'.del ls).setM σ.m, ?_, back _ hEτ⟩
        have y2 := y'.sleep1 hτl
        exact ((y2.perm (List.Perm.trans (List.Perm.swap _ _ _) (List.Perm.cons _ (List.Perm.swap _ _ _)))).dropF).dropF
    · refine ⟨F, L, σ, _, τ.m, R, ?_, ?_, ?_, hmst, ?_, ?_, z1⟩
      · exact hG.ext (hEd.1)
      · exact hEd
      · simp
      · intro y hy; rw [List.mem_singleton.mp hy]; obtain ⟨_, _, _, _, e⟩ := node_of hx; exact ⟨_, e⟩
      · simpa using hz
end PartC16

section PartC17
open PySem PySem.W PyProof.Rows PySem.Calls
set_option maxRecDepth 100000
set_option maxHeartbeats 400000
set_option linter.unusedVariables false

/-- an iterator that is still to give rem, as long as K holds -/
def Gv (b : Base) (A : Around) (it : Value) (K : Sg → Prop) : List Value → Fs → Prop
  | [], Fi => ∀ F L σ D I, K σ → (∀ σ', ESt σ σ' → D σ') → Next b A F L it Fi σ D I
  | v :: rem, Fi => ∀ F L σ D I, K σ → (∀ Fi' σ', ESt σ σ' → Gv b A it K rem Fi' → I v Fi' σ') → Next b A F L it Fi σ D I
theorem Gv.gi {b : Base} (G : Glb b) {A : Around} {a gi d : Nat} {K : Sg → Prop} (R : Rm A.in1 d) : ∀ {rem : List Value} {Fg : Fs} {gs : GenState}, GI b a gi d K rem Fg gs → Gv b A (.ref a) K rem ((a, .gen gi gs) :: Fg) := by
  intro rem
  induction rem with
  | nil =>
    intro Fg gs h F L σ D I hK hD
    exact next_gi G R hK h (fun _ => hD) fun v rem' e => by cases e
  | cons v rem ih =>
    intro Fg gs h F L σ D I hK hI
    refine next_gi G R hK h (fun e => by cases e) fun v' rem' e Fg' gs' σ' hE h' => ?_
    cases e
    exact hI _ σ' hE (ih h')
theorem Gv.its {b : Base} {A : Around} {xs : List Value} {it : Value} {Fi : Nat → Fs} {K : Sg → Prop} (h : Its b A xs it Fi K) : ∀ k i, i + k = xs.length → Gv b A it K (xs.drop i) (Fi i) := by
  intro k
  induction k with
  | zero =>
    intro i e
    rw [List.drop_of_length_le (by omega)]
    intro F L σ D I hK hD
    exact h i F L σ D I hK (by omega) (fun _ => hD σ ESt.rfl) fun v hv => by rw [List.getElem?_eq_none (by omega)] at hv; cases hv
  | succ k ih =>
    intro i e
    rw [List.drop_eq_getElem_cons (by omega)]
    intro F L σ D I hK hI
    refine h i F L σ D I hK (by omega) (fun e => by omega) fun v hv => ?_
    have : v = xs[i] := by rw [List.getElem?_eq_getElem (by omega)] at hv; exact (Option.some.inj hv).symm
    subst this
    exact hI _ σ ESt.rfl (ih (i + 1) (by omega))
theorem Self.gen {b : Base} {A : Around} {a gi : Nat} {gs : GenState} {Fg : Fs} : Self b A (.ref a) ((a, .gen gi gs) :: Fg) := fun s E Q F L σ y h => wpAny_pyIter_gen (y.fr (a, .gen gi gs) (.head _)) h

section
variable {b : Base} {A : Around} {F : Fs} {L : Addr} {σ : Sg} {env : Env}
theorem cellK_none {cl : List (Str × Addr)} : ∀ (names : List (Str × NameKind)) (τ : Sg) (k : List (Str × Addr) → Sg → Prop), (∀ y ∈ names, y.2 ≠ .cell) → k cl τ → CellK names cl τ k := by
  intro names
  induction names with
  | nil => intro τ k _ h; exact h
  | cons q r ih =>
    intro τ k hn h
    obtain ⟨n, kd⟩ := q
    unfold CellK
    have : (kd == NameKind.cell) = false := by simpa using hn (n, kd) (.head _)
    rw [if_neg (by simp [this])]
    exact ih _ _ (fun y hy => hn y (.tail _ hy)) h
/-- [x for x in it] -/
theorem w_compGv {iter : Expr} {x : Str} {px ep : Pos} {scope : Scope} {pos pp : Pos} {cl : List (Str × Addr)} {use : Option (Value → Sem Unit)} {Q : Value → Sg → Prop}
    (hclos : closureFor scope env = pure cl) (hkind : scope.kind = .function) (hnames : ∀ x ∈ scope.names, x.2 = .local → scope.names.lookup x.1 = some .local)
    (hcell : ∀ y ∈ scope.names, y.2 ≠ .cell) (hx : scope.names.lookup x = some .local) (hdb : (x == ("__debug__" : Str)) = false)
    (h : EvIter b A F L (eval iter env) σ fun it Fi σ₂ => ∃ K rem, Gv b A it K rem Fi ∧ Self b A it Fi ∧ (∀ τ, Ext σ₂ τ → K τ) ∧ rem.length ≤ sizeLine ∧
          (∀ τ acc, Ext σ₂ τ → τ.at_ acc = none → τ.m = σ₂.m → match use with
            | none => Q (.ref acc) (τ.put acc (.lst rem))
            | some u => ∀ C m, W b A ((C, .ns m) :: F) L (u (.ref acc)) (τ.put acc (.lst rem)) fun _ => Q .none))
    (hs : ∀ x, foldedSetIterable iter env x = pure x := by intro _; with_unfolding_all rfl) :
    W b A F L (comprehension (.ListComp (.Name x ep) [⟨.Name x px, iter, [], 0⟩] scope pos) scope env pp (newList []) false (eval iter env) use) σ Q := by
  refine w_compEv hclos hkind hnames (fun _ _ => by rfl) (fun s E y => wpAny_mono (h s E y) (fun xv s₁ q => wpAny_mono q (fun it s₂ ⟨Fi0, σ₂, y₂, K, rem, hG, hself, hK, hz, fin⟩ => ⟨Fi0, σ₂, y₂, hself, fun acc C => ?_⟩) fun _ _ e => e) fun _ _ e => e) hs
  refine cellK_none _ _ _ hcell ⟨rfl, fun k Fi ys τ => ∃ rem', Gv b A it K rem' Fi ∧ ys ++ rem' = rem ∧ k = rem'.length ∧ Ext σ₂ τ, rem.length, ⟨rem, hG, rfl, rfl, Ext.rfl.mr _⟩, ?_⟩
  rintro k Fi ys τ ⟨rem', hG', rfl, rfl, hE⟩
  rw [List.length_append] at hz
  refine ⟨by omega, ?_⟩
  cases rem' with
  | nil =>
    refine hG' _ _ _ _ _ (hK _ hE) fun σ' hE' hacc => ?_
    rw [List.append_nil] at fin
    have f := fin { σ' with m := σ₂.m } acc ((hE.trans hE'.1).mr _) hacc rfl
    cases use with
    | none => exact f
    | some u => exact f C σ'.m
  | cons v rem' =>
    refine hG' _ _ _ _ _ (hK _ hE) fun Fi' σ' hE' hG'' => ?_
    refine w_assignN (w_storeL rfl ?_ (by show (relabel scope env).kind = _; exact hkind) (lookup_relabel_local hx))
    refine w_tests0 ⟨fun _ => ?_, fun e => by cases e⟩
    refine w_local rfl getL_same ?_ (by show (relabel scope env).kind = _; exact hkind) (lookup_relabel_local hx) hdb
    exact ⟨rem'.length, by simp, rem', hG'', by simp, rfl, (hE.trans hE'.1).setL⟩
end
end PartC17

section PartC18
open PySem PySem.W PyProof.Rows PySem.Calls
set_option maxRecDepth 100000
set_option maxHeartbeats 400000
set_option linter.unusedVariables false

/-- what the world says of the tables of lambdas, and of the builtins -/
structure GlbT (b : Base) : Prop extends Glb b where
  tab1 : CodeHd b.h 103 99
  tab2 : CodeHd b.h 110 106
  tab3 : CodeHd b.h 204 202
  bm : ∃ mg, b.h.Ns mainGlobals mg ∧ ∃ bm o, mg "__builtins__" = some (.ref bm) ∧ bm ≠ builtinsNs ∧ b.h.get? bm = some o ∧ o.cls = .type "module" ∧ o.dict = some builtinsNs ∧ o.data = .plain

section
variable {b : Base} {A : Around} {F : Fs} {L : Addr} {σ : Sg} {env : Env}
theorem St.changeX {s : Shared} {h' : Heap} {a : Addr} {c₀ c : Cl} (x : St b F L σ s) (h0 : σ.at_ a = some c₀) (hs : ∀ y o, y ≠ a → s.heap.get? y = some o → h'.get? y = some o) (hc : c.At h' a) : St b F L (σ.put a c) { s with heap := h' } := by
  have hL : L ≠ a := fun e => by have := x.offL.2.1; rw [e, h0] at this; cases this
  have hF : ∀ p ∈ F, p.1 ≠ a := fun p hp e => by have := (x.offF p hp).2; rw [e, h0] at this; cases this
  have hb : ∀ y o, b.h.get? y = some o → y ≠ a := fun y o e q => by have := x.offC a _ h0; rw [← q, e] at this; cases this
  refine ⟨?_, fun p hp => (x.fr p hp).same fun o e => hs _ _ (hF p hp) e, x.nd, fun y o e => hs y o (hb y o e) (x.keep y o e), fun a' c' e => ?_, ⟨x.offL.1, ?_, x.offL.2.2⟩, fun p hp => ⟨(x.offF p hp).1, ?_⟩, fun a' c' e => ?_, x.gens, x.os⟩
  · obtain ⟨o, es, ep, g, r⟩ := x.ns; exact ⟨o, es, ep, hs _ _ hL g, r⟩
  · simp only [Sg.put] at e
    split at e
    · rename_i h; subst h; cases e; exact hc
    · rename_i h; exact (x.cl a' c' e).same fun o e => hs _ _ h e
  · simp only [Sg.put, if_neg hL]; exact x.offL.2.1
  · simp only [Sg.put, if_neg (hF p hp)]; exact (x.offF p hp).2
  · simp only [Sg.put] at e
    split at e
    · rename_i h; subst h; exact x.offC _ _ h0
    · exact x.offC a' c' e
/-- an object that stands comes to be known -/
theorem St.know {s : Shared} {n : Addr} {c : Cl} (x : St b F L σ s) (hc : c.At s.heap n) (hL : L ≠ n) (hF : ∀ p ∈ F, p.1 ≠ n) (hb : b.h.get? n = none) (hn : σ.at_ n = none) : St b F L (σ.put n c) s := by
  refine ⟨x.ns, x.fr, x.nd, x.keep, fun a c' e => ?_, ⟨x.offL.1, ?_, x.offL.2.2⟩, fun p hp => ⟨(x.offF p hp).1, ?_⟩, fun a c' e => ?_, x.gens, x.os⟩
  · simp only [Sg.put] at e
    split at e
    · rename_i h; subst h; cases e; exact hc
    · exact x.cl a c' e
  · simp only [Sg.put, if_neg hL]; exact x.offL.2.1
  · simp only [Sg.put, if_neg (hF p hp)]; exact (x.offF p hp).2
  · simp only [Sg.put] at e
    split at e
    · rename_i h; subst h; exact hb
    · exact x.offC a c' e
theorem w_lambda {params : Arguments} {body : Expr} {scope : Scope} {pos : Pos} {c P : Addr} {ps : Array Value} {clos : List (Str × Addr)} {Q : Value → Sg → Prop} (GT : GlbT b) (hP : σ.at_ P = some (.obj (tabObj ps))) (C : CodeHd b.h c P) (hcode : env.code = .ref c)
    (hcl : closureFor scope env = pure clos) (hge : env.globals = mainGlobals) (ht : TriplesOk ps.toList) (hnf : codeAmong pos ps.toList = none) (hdef : defaultsOf params env = ([], []))
    (h : ∀ f c' oc vs t pm ctv, σ.at_ f = none → σ.at_ c' = none → f ≠ c' → oc.data = .fields vs → vs[1]? = some (.str (env.qual ++ "<lambda>") t) →
      Q (.ref f) (((σ.put P (.obj (tabObj (ps ++ #[rawInt pos.line, rawInt pos.col, .ref c'])))).put c' (.obj oc)).put f (.obj (kla_obj "<lambda>" (env.qual ++ "<lambda>") params body scope clos pm c' ctv)))) :
    W b A F L (eval (.Lambda params body scope pos) env) σ Q := fun s E x => by
  refine kla_eval hdef ?_
  obtain ⟨mg, hgs, bm, ob, b1, b2, b3, b4, b5, b6⟩ := GT.bm
  have gP : s.heap.get? P = some (tabObj ps) := x.cl _ _ hP
  have bP : b.h.get? P = none := x.offC _ _ hP
  have hgP : mainGlobals ≠ P := fun q => by
    obtain ⟨o, es, ep, e, hd, _⟩ := hgs
    rw [q, bP] at e; cases e
  have hbP : bm ≠ P := fun q => by rw [q, bP] at b3; cases b3
  have hbG : bm ≠ mainGlobals := fun q => by
    obtain ⟨o, es, ep, e, hd, _⟩ := hgs
    rw [q, e] at b3; cases b3; rw [hd] at b6; cases b6
  refine kla_makeFunction (mg := mg) hcl hge (hgs.keeps x.keep) hcode (C.keeps x.keep) gP ht hnf hgP ⟨bm, ob, b1, b2, hbG, hbP, x.keep _ _ b3, b4, b5, b6⟩ fun c' ctv h' tk hx hge' hlt hrec htb => ?_
  obtain ⟨c₂, oc, vs, t, e2, hoc, hd, hv⟩ := hrec
  cases e2
  have old : ∀ y o', s.heap.get? y = some o' → y ≠ c' := fun y o' e q => Nat.lt_irrefl _ (Nat.lt_of_lt_of_le (q ▸ Heap.lt_size e) hge')
  have nn : σ.at_ c' = none := by
    cases q : σ.at_ c' with
    | none => rfl
    | some cc => obtain ⟨o', e⟩ := (x.cl _ _ q).there; exact absurd rfl (old _ _ e)
  have nP : c' ≠ P := fun e => by rw [e, hP] at nn; cases nn
  have x1 := x.changeX (c := .obj (tabObj (ps ++ #[rawInt pos.line, rawInt pos.col, .ref c']))) hP hx htb
  have x2 := x1.know (n := c') (c := .obj oc) hoc (by obtain ⟨o', _, _, e, _⟩ := x.ns; exact old _ _ e) (fun p hp => by obtain ⟨o', e⟩ := (x.fr p hp).there; exact old _ _ e)
    (by cases q : b.h.get? c' with
      | none => rfl
      | some o' => exact absurd rfl (old _ _ (x.keep _ _ q))) (by rw [putA_ne nP]; exact nn)
  have z := x2.alloc (o := kla_obj "<lambda>" (env.qual ++ "<lambda>") params body scope clos ((mg "__name__").getD .none) c' ctv) (c := .obj (kla_obj "<lambda>" (env.qual ++ "<lambda>") params body scope clos ((mg "__name__").getD .none) c' ctv)) (Heap.get?_push_size _ rfl)
  have z1 := z.1
  have fc : h'.objs.size ≠ c' := Nat.ne_of_gt hlt
  have fP : h'.objs.size ≠ P := Nat.ne_of_gt (Heap.lt_size htb)
  have nf : σ.at_ h'.objs.size = none := by
    have : ((σ.put P (.obj (tabObj (ps ++ #[rawInt pos.line, rawInt pos.col, .ref c'])))).put c' (.obj oc)).at_ h'.objs.size = none := z1
    simp only [Sg.put, if_neg fc, if_neg fP] at this
    exact this
  exact ⟨_, z.2.toks tk, h _ c' oc vs t _ ctv nf nn fc hd hv⟩

/-- a call of a lambda that the ghost knows -/
theorem wc_lam {f c' : Addr} {oc : Obj} {vs : Array Value} {t : Tok} {args : Args} {fd : FuncData} {body : Expr} {binds : List (Str × Value)} {Q : Value → Sg → Prop} (G : Glb b) (hf : σ.at_ f = some (.obj { cls := .type "function", data := .func fd })) (hc : σ.at_ c' = some (.obj oc))
    (hcd : fd.code = .ref c') (hd : oc.data = .fields vs) (hv : vs[1]? = some (.str fd.qualname t)) (hbody : fd.body = .expr body) (hroom : A.depth < recursionLimit) (hb : bindArgs fd args = pure binds)
    (h : ∀ L', CellK fd.scope.names fd.closure (σ.setM fun _ => none) fun cs σ₁ => BindK (fnEnv fd L' cs f) binds σ₁ fun σ₂ =>
      W b (A.deeper (fnEnv fd L' cs f)) ((L, .ns σ.m) :: F) L' (eval body (fnEnv fd L' cs f)) σ₂ fun v σ' => Q v (σ'.setM σ.m))
    (hco : fd.scope.isCoroutine = false) (hgen : fd.scope.isGenerator = false) (hk : fd.scope.kind = .function) : WC b A F L (.call (.ref f) args) σ Q := fun s R x hR => by
  refine kla_callFunE hroom (x.cl _ _ hf) rfl hco hgen hbody ⟨c', oc, vs, t, hcd, x.cl _ _ hc, hd, hv⟩ ?_
  rw [hb]
  refine wpAny_pure ?_
  refine newEnv_any x hk fun L' => ?_
  refine CellK.mono (fun cs τ hτ => BindK.mono (fun τ₂ h₂ => ?_) _ _ hτ) _ _ _ (h L')
  intro s₂ x₂
  refine ⟨G.lim.keeps x₂.keep, kla_codeExpr (wpAny_mono (h₂ s₂ _ x₂) (fun v s' ⟨σ', y, q⟩ => ?_) fun _ _ e => e)⟩
  exact hR _ _ _ y.leave q
/-- f(x), f a function that the ghost knows -/
theorem w_cwF {pos : Pos} {f : Addr} {fd : FuncData} {first : List Value} {args : List Expr} {Q : Value → Sg → Prop}
    (h : W b A F L (spliced (backTo pos (starEach args env))) σ fun vs σ₁ => σ₁.at_ f = some (.obj { cls := .type "function", data := .func fd }) ∧ W b A F L (call (.ref f) (first ++ vs)) σ₁ Q) (h0 : σ.at_ f = some (.obj { cls := .type "function", data := .func fd })) (hp : (backTo pos (starEach args env)).any (·.1) = false := by with_unfolding_all rfl) :
    W b A F L (callWith pos (.ref f) first (backTo pos (starEach args env)) []) σ Q := fun s E x => by
  refine callWith_of (P := fun h => h.get? f = some { cls := .type "function", data := .func fd }) (by rw [hp]; rfl) (fun h X => ⟨.frame, .inl rfl, (Looks.ld (part := none) X).andThen .now⟩) ?_
  have z : wpAny (model P b.w) A (spliced (backTo pos (starEach args env))) (fun vs s₁ => s₁.heap.get? f = some { cls := .type "function", data := .func fd } ∧ wpAny (model P b.w) A (call (.ref f) (first ++ vs)) (fun a s' => ∃ σ', St b F L σ' s' ∧ Q a σ') E s₁) E s :=
    wpAny_mono (h s E x) (fun vs s' ⟨_, y, q⟩ => ⟨y.cl _ _ q.1, q.2 s' E y⟩) fun _ _ e => e
  generalize hq : backTo pos (starEach args env) = l at z hp
  cases l with
  | nil =>
    refine evalArgs_nil3 ?_
    have z' : wpAny (model P b.w) A (pure []) (fun vs s₁ => s₁.heap.get? f = some { cls := .type "function", data := .func fd } ∧ wpAny (model P b.w) A (call (.ref f) (first ++ vs)) (fun a s' => ∃ σ', St b F L σ' s' ∧ Q a σ') E s₁) E s := z
    exact ⟨x.cl _ _ h0, fun Γ p hΓ => (z' Γ p hΓ).2 Γ p hΓ⟩
  | cons p r =>
    obtain ⟨st, t⟩ := p
    rw [List.any_cons, Bool.or_eq_false_iff] at hp
    have e : st = false := hp.1
    subst e
    exact evalArgs_plain z
end
end PartC18

section PartC19
open PySem PySem.W PyProof.Rows PySem.Calls
set_option maxRecDepth 100000
set_option maxHeartbeats 400000
set_option linter.unusedVariables false

section
variable {M : Model} {A : Around} {Φ : End → Shared → Prop} {c : Code} {fs : List Frame} {s : Shared} {env : Env}
theorem run_bw {α β : Type} {m : Sem α} {f : α → Sem β} {K : β → Sem PySem.Fin} {H : Value → Sem PySem.Fin} {gd : Bool → Bool} {lv : List Value → List Value}
    (h : wpAny M (A.over c fs) m (fun a s' => Run1 M A Φ c ((f a).wrap K H gd lv) fs s') (fun e s' => Run1 M A Φ c (H e) fs s') s) : Run1 M A Φ c ((m >>= f).wrap K H gd lv) fs s := by
  rw [Sem.bind_eq_wrap', Sem.wrap_wrap]; exact run_wrap h
end
section
variable {prog : Program} {w : World} {A : Around} {Φ : End → Shared → Prop} {c : Code} {fs : List Frame} {s : Shared} {env : Env} {K : Flow → Sem PySem.Fin} {H : Value → Sem PySem.Fin} {gd : Bool → Bool} {lv : List Value → List Value}
theorem run_For {target iter : Expr} {body orelse : List Stmt} {pos : Pos}
    (h : ∀ E, wpAny (model prog w) (A.over c fs) (eval iter env) (fun xv s₁ => wpAny (model prog w) (A.over c fs) (pyIter xv) (fun it s₂ =>
      ∀ p, Run1 (model prog w) A Φ (.forLoop target it body orelse env) ((model prog w).den (.forLoop target it body orelse env))
      (.ret (fun r => ((match r with | .ok f => (.pure f : Sem Flow) | .error e => .raise e).onRaise fun (x : Value) => do
        if (← field x 1) == Value.none then unsupported "frame.own-activation:exception-without-traceback"
        setFlight x env.frame).wrap K H gd lv) none (gd false) (lv []) c p [] :: fs) s₂) E s₁) E s)
    (hs : ∀ x, foldedSetIterable iter env x = pure x := by intro _; with_unfolding_all rfl) :
    Run1 (model prog w) A Φ c ((exec (.For target iter body orelse pos) env).wrap K H gd lv) fs s := by
  rw [exec_For]
  refine run_bw (wpAny_standAt (run_bw (wpAny_mono (h _) (fun xv s₁ q => ?_) fun _ _ e => e)))
  rw [hs]
  refine run_bw (wpAny_pure (run_bw (wpAny_standAt (run_bw (wpAny_holding (wpAny_mono q (fun it s₂ q => ?_) fun _ _ e => e))))))
  exact run_call q
theorem run_forLoop {x : Str} {px : Pos} {it : Value} {body : List Stmt}
    (h : ∀ E, wpAny (model prog w) (A.over (.forLoop (.Name x px) it body [] env) fs) (pyNext it) (fun r s₁ => match r with
      | none => ∀ c', Run1 (model prog w) A Φ c' (.pure (.done .next)) fs s₁
      | some v => ∀ E, wpAny (model prog w) (A.over (.forLoop (.Name x px) it body [] env) fs) (storeName env x v) (fun _ s₂ =>
          Run1 (model prog w) A Φ (.forLoop (.Name x px) it body [] env) ((execs body env).wrap (fun f => match f with
            | .next | .cont => .pure (.again (.forLoop (.Name x px) it body [] env))
            | .brk => .pure (.done .next)
            | .ret v => .pure (.done (.ret v))) (fun e => (do noteFrame e env; theTreesLotGoes e : Sem Unit).wrap (fun _ => .raise e) .raise id id) id id) fs s₂) E s₁) E s) :
    Run1 (model prog w) A Φ (.forLoop (.Name x px) it body [] env) ((model prog w).den (.forLoop (.Name x px) it body [] env)) fs s := by
  show Run1 _ A Φ _ ((forTurn (.Name x px) it body [] env).onRaise (fun x => do noteFrame x env; theTreesLotGoes x)) fs s
  unfold forTurn
  rw [Sem.onRaise_eq_wrap]
  refine run_bw (wpAny_standAt (run_bw (wpAny_onRaise (wpAny_mono (h _) (fun r s₁ q => ?_) fun _ _ e => wpAny_standAt e))))
  cases r with
  | none => exact run_again rfl (q _)
  | some v =>
    refine run_bw (wpAny_pure (run_bw (wpAny_assign_Name (wpAny_mono (q _) (fun _ s₂ q => ?_) fun _ _ e => e))))
    rw [Sem.bind_eq_wrap', Sem.wrap_wrap]
    rw [Sem.wrap_congr (execs body env) _ _ (K' := fun f => match f with
            | .next | .cont => .pure (.again (.forLoop (.Name x px) it body [] env))
            | .brk => .pure (.done .next)
            | .ret v => .pure (.done (.ret v))) (H' := (fun e => (do noteFrame e env; theTreesLotGoes e : Sem Unit).wrap (fun _ => .raise e) .raise id id))
        (fun f => by cases f <;> rfl)
        (fun e => by first | exact Sem.bind_eq_wrap _ _ | (show (do noteFrame e env; theTreesLotGoes e : Sem Unit).bind (fun _ => .raise e) = _; rw [Sem.bind_eq_wrap]))]
    exact q
end
end PartC19

section PartC20
open PySem PySem.W PyProof.Rows PySem.Calls
set_option maxRecDepth 100000
set_option maxHeartbeats 400000
set_option linter.unusedVariables false

local macro_rules | `(tactic| k_clsL) => `(tactic| first
  | with_reducible assumption
  | (with_reducible show Sg.m (Sg.setL _ _ _) _ = some _; first | with_reducible exact getL_same | (apply getL_skip; with_unfolding_all decide; k_clsL))
  | (with_reducible show Sg.m (Sg.put _ _ _) _ = some _; apply putM; k_clsL)
  | (with_reducible show Sg.m (Sg.del _ _) _ = some _; apply delM; k_clsL)
  | (with_reducible show Sg.m (Sg.setM _ _) _ = some _; apply setMM; k_clsL)
  | (apply viaM; with_reducible assumption; k_clsL)
  | (apply viaE; with_reducible assumption; k_clsL))
local macro_rules | `(tactic| k_offL) => `(tactic| first
  | with_reducible assumption
  | with_reducible exact Ext.rfl
  | (with_reducible show Ext _ (Sg.setL _ _ _); refine Ext.setL ?_; k_offL)
  | (with_reducible show Ext _ (Sg.put _ _ _); refine Ext.put ?_ (by first | with_reducible assumption | with_reducible exact setA (by with_reducible assumption)); k_offL)
  | (with_reducible show Ext _ (Sg.setM _ _); refine Ext.setM ?_; k_offL)
  | (with_reducible refine Ext.tr (by with_reducible assumption) ?_; k_offL)
  | (with_reducible refine Ext.tr2 (by with_reducible assumption) ?_; k_offL))
local macro_rules | `(tactic| k_places) => `(tactic| first
  | with_reducible assumption
  | with_reducible exact putA_same
  | (with_reducible show Sg.at_ (Sg.setL _ _ _) _ = some _; apply setA; k_places)
  | (with_reducible show Sg.at_ (Sg.setM _ _) _ = some _; apply setMA; k_places)
  | (with_reducible show Sg.at_ (Sg.put _ _ _) _ = some _; apply putA_new; with_reducible assumption; k_places)
  | (apply ESt.at_; with_reducible assumption; k_places)
  | (apply Ext.at'; with_reducible assumption; k_places))
local macro_rules | `(tactic| k_subL) => `(tactic| first
  | (with_reducible show W _ _ _ _ (spliced (backTo _ (starEach [] _))) _ _; refine w_items0 ?_)
  | (with_reducible show W _ _ _ _ (spliced (backTo _ (starEach (_ :: _) _))) _ _; refine w_items ?_)
  | (with_reducible show W _ _ _ _ (eval (Expr.Name _ _) _) _ _; first | refine w_local (by with_unfolding_all rfl) (by k_clsL) ?_ | refine w_cell (by with_unfolding_all rfl) (by k_places) ?_ | (with_reducible show W _ _ _ _ (eval (Expr.Name ("Tree" : Str) _) _) _ _; refine w_glob (v := .ref 142) (by assumption) (by kernel_rfl) ?_) | (with_reducible show W _ _ _ _ (eval (Expr.Name ("Token" : Str) _) _) _ _; refine w_glob (v := .ref 45) (by assumption) (by kernel_rfl) ?_))
  | (with_reducible show W _ _ _ _ (eval (Expr.Call (Expr.Name ("isinstance" : Str) _) _ [] _) _) _ _; refine w_callB (n := "isinstance") (by assumption) boot_isi (by kernel_rfl) ?_)
  | (with_reducible show W _ _ _ _ (eval (Expr.Call (Expr.Name ("len" : Str) _) _ [] _) _) _ _; refine w_callB (n := "len") (by assumption) boot_len (by kernel_rfl) ?_)
  | (with_reducible show W _ _ _ _ (eval (Expr.Call (Expr.Name ("min" : Str) _) _ [] _) _) _ _; refine w_callB (n := "min") (by assumption) boot_min (by kernel_rfl) ?_)
  | (with_reducible show W _ _ _ _ (eval (Expr.Call (Expr.Name ("range" : Str) _) _ [] _) _) _ _; refine w_callT (n := "range") (by assumption) boot_range (by kernel_rfl) ?_)
  | (with_reducible show W _ _ _ _ (eval (Expr.Call (Expr.Name ("str" : Str) _) _ [] _) _) _ _; refine w_callT (n := "str") (by assumption) boot_str (by kernel_rfl) ?_)
  | (with_reducible show W _ _ _ _ (eval (Expr.Call (Expr.Name ("list" : Str) _) _ [] _) _) _ _; refine w_callT (n := "list") (by assumption) boot_list (by kernel_rfl) ?_)
  | (with_reducible show W _ _ _ _ (eval (Expr.Call (Expr.Name ("reversed" : Str) _) _ [] _) _) _ _; refine w_callT (n := "reversed") (by assumption) boot_rev (by kernel_rfl) ?_)
  | (with_reducible show W _ _ _ _ (eval (Expr.Call (Expr.Name ("filter" : Str) _) _ [] _) _) _ _; refine w_callT (n := "filter") (by assumption) boot_filter (by kernel_rfl) ?_)
  | (with_reducible show W _ _ _ _ (call (.builtin "len") [.ref _]) _ _; (refine w_len (by k_places) ?_ fun _ => ?_); rotate_left)
  | (with_reducible show W _ _ _ _ (binaryOp .Add (.int _ _) (.int _ _)) _ _; refine w_addI fun _ => ?_)
  | (with_reducible show W _ _ _ _ (binaryOp .Sub (.int _ _) (.int _ _)) _ _; refine w_subI fun _ => ?_)
  | (with_reducible show W _ _ _ _ (compareOp .Eq (.int _ _) (.int _ _)) _ _; refine w_eqI ?_)
  | (with_reducible show W _ _ _ _ (compareOp .NotEq (.int _ _) (.int _ _)) _ _; refine w_neI ?_)
  | (with_reducible show W _ _ _ _ (compareOp .Lt (.int _ _) (.int _ _)) _ _; refine w_ltI ?_)
  | (with_reducible show W _ _ _ _ (compareOp .Eq (.str _ _) (.str _ _)) _ _; refine w_eqS ?_)
  | (with_reducible show W _ _ _ _ (compareOp .NotEq (.bool _) (.bool _)) _ _; refine w_neB ?_)
  | (with_reducible show W _ _ _ _ (unaryOp .USub (.int _ _)) _ _; refine w_negI fun _ => ?_)
  | (with_reducible show W _ _ _ _ (unaryOp .Not _) _ _; refine w_notv ?_)
  | (with_reducible show W _ _ _ _ (eval (Expr.Attribute _ _ _) _) _ _; refine w_attr ?_)
  | (with_reducible show W _ _ _ _ (eval (Expr.List _ _) _) _ _; refine w_list ?_)
  | (with_reducible show W _ _ _ _ (eval (Expr.Tuple _ _ _) _) _ _; refine w_tuple ?_)
  | (with_reducible show W _ _ _ _ (eval (Expr.BinOp _ _ _ _) _) _ _; refine w_binop ?_)
  | (with_reducible show W _ _ _ _ (eval (Expr.Compare _ [_] [_] _) _) _ _; refine w_cmp ?_)
  | (with_reducible show W _ _ _ _ (eval (Expr.IfExp _ _ _ _) _) _ _; refine w_ifexp ?_)
  | (with_reducible show W _ _ _ _ (eval (Expr.Subscript _ _ _) _) _ _; refine w_sub ?_)
  | (with_reducible show W _ _ _ _ (eval (Expr.UnaryOp _ _ _) _) _ _; refine w_unop ?_)
  | (with_reducible show W _ _ _ _ (eval (Expr.Constant .none _ _) _) _ _; refine w_none ?_)
  | (with_reducible show W _ _ _ _ (eval (Expr.Constant (.bool _) _ _) _) _ _; refine w_tf ?_)
  | (with_reducible show W _ _ _ _ (eval (Expr.Constant (.int _) _ _) _) _ _; refine w_int ?_; intro _)
  | (with_reducible show W _ _ _ _ (eval (Expr.Constant (.str _) _ _) _) _ _; refine w_str ?_; intro _)
  | (with_reducible show W _ _ _ _ (execs [] _) _ _; refine w_nil ?_)
  | (with_reducible show W _ _ _ _ (execs (Stmt.Assign [Expr.Name _ _] (Expr.ListComp _ [Comprehension.mk _ _ _ _] _ _) _ :: _) _) _ _; refine w_cons (w_assignComp ?_))
  | (with_reducible show W _ _ _ _ (execs (Stmt.Assign [Expr.Name _ _] _ _ :: _) _) _ _; refine w_consA ?_)
  | (with_reducible show W _ _ _ _ (execs (Stmt.Assign [Expr.Attribute _ _ _] _ _ :: _) _) _ _; refine w_consAttr ?_)
  | (with_reducible show W _ _ _ _ (execs (Stmt.Assign [Expr.Subscript _ _ _] _ _ :: _) _) _ _; refine w_consSub ?_)
  | (with_reducible show W _ _ _ _ (execs (Stmt.If _ _ [] _ :: _) _) _ _; refine w_consIf ?_)
  | (with_reducible show W _ _ _ _ (execs (Stmt.If _ _ _ _ :: _) _) _ _; refine w_consElse ?_)
  | (with_reducible show W _ _ _ _ (execs (Stmt.Return (some _) _ :: _) _) _ _; refine w_consRet ?_)
  | (with_reducible show W _ _ _ _ (execs (Stmt.Break _ :: _) _) _ _; refine w_consBrk ?_)
  | (with_reducible show W _ _ _ _ (execs (Stmt.Continue _ :: _) _) _ _; refine w_consCont ?_)
  | (with_reducible show W _ _ _ _ (execs (Stmt.Expr (Expr.Call (Expr.Attribute _ _ _) [_] [] _) _ :: _) _) _ _; refine w_consApp ?_)
  | (with_reducible show W _ _ _ _ (execs (Stmt.Expr _ _ :: _) _) _ _; refine w_consE ?_)
  | (with_reducible show W _ _ _ _ (isTrue (Expr.UnaryOp .Not _ _) _ _) _ _; refine w_not ?_)
  | (with_reducible show W _ _ _ _ (isTrue (Expr.BoolOp _ _ _) _ _) _ _; refine w_bool ?_)
  | (with_reducible show W _ _ _ _ (allTrue .And [] _) _ _; refine w_andNil ?_)
  | (with_reducible show W _ _ _ _ (allTrue .Or [] _) _ _; refine w_orNil ?_)
  | (with_reducible show W _ _ _ _ (allTrue .And (_ :: _) _) _ _; refine w_and ?_)
  | (with_reducible show W _ _ _ _ (allTrue .Or (_ :: _) _) _ _; refine w_or ?_)
  | (with_reducible show W _ _ _ _ (isTrue (Expr.Compare _ [_] [_] _) _ _) _ _; refine w_tcmp ?_)
  | (with_reducible show W _ _ _ _ (isTrue _ _ _) _ _; refine w_tval ?_)
  | (with_reducible show W _ _ _ _ (storeName _ _ _) _ _; first | refine w_storeL (by with_unfolding_all rfl) ?_ | refine w_storeC (by with_unfolding_all rfl) (by k_places) ?_)
  | (with_reducible show W _ _ _ _ (tests [_] _) _ _; refine w_tests1 ?_)
  | (with_reducible show W _ _ _ _ (tests [] _) _ _; refine w_tests0 ?_)
  | (with_reducible show W _ _ _ _ (eval (Expr.ListComp _ [Comprehension.mk _ _ _ _] _ _) _) _ _; refine w_listcomp ?_)
  | (with_reducible show W _ _ _ _ (truthy (.bool _)) _ _; refine w_truthyB ?_)
  | (with_reducible show thenK _ _ Flow.next _; refine thenK_next ?_)
  | (with_reducible show thenK _ _ Flow.brk _; refine thenK_brk ?_)
  | (with_reducible show thenK _ _ Flow.cont _; refine thenK_cont ?_)
  | (with_reducible show thenK _ _ (Flow.ret _) _; refine thenK_ret ?_)
  | (with_reducible show turnK _ _ _ Flow.next _; refine turnK_next ?_)
  | (with_reducible show turnK _ _ _ Flow.brk _; refine turnK_brk ?_)
  | (with_reducible show turnK _ _ _ Flow.cont _; refine turnK_cont ?_)
  | (with_reducible show turnK _ _ _ (Flow.ret _) _; refine turnK_ret ?_))

section
variable {b : Base} {A : Around} {F : Fs} {L : Addr} {σ : Sg} {env : Env} {Φ : End → Shared → Prop} {c : Code} {fs : List Frame}
theorem St.wakeG {s : Shared} {a Lg : Addr} {k : Kp} {mg : NsMap} {Fi : Fs} (x : St b ((a, k) :: (Lg, .ns mg) :: (Fi ++ F)) L σ s) : St b (Fi ++ ((L, .ns σ.m) :: (a, k) :: F)) Lg (σ.setM mg) s := by
  have y := (x.perm (F' := (Lg, .ns mg) :: (a, k) :: (Fi ++ F)) (List.Perm.swap _ _ _)).swap
  exact y.perm (List.perm_append_comm_assoc [(L, Kp.ns σ.m), (a, k)] Fi F)
theorem St.sleepG {s : Shared} {a Lg : Addr} {k : Kp} {m : NsMap} {Fi : Fs} (x : St b (Fi ++ ((L, .ns m) :: (a, k) :: F)) Lg σ s) : St b ((a, k) :: (Lg, .ns σ.m) :: (Fi ++ F)) L (σ.setM m) s := by
  have y := x.perm (F' := (L, .ns m) :: (a, k) :: (Fi ++ F)) (List.perm_append_comm_assoc [(L, Kp.ns m), (a, k)] Fi F).symm
  exact y.swap.perm (List.Perm.swap _ _ _)
theorem rm_over {n : Nat} (R : Rm A (n + 1)) (hh : (A.over c fs).handled = A.handled := by rfl) (hd : (A.over c fs).depth ≤ A.depth + 1 := by exact Nat.le_of_eq rfl) (hu : (A.over c fs).units ≤ A.units + 3 := by exact Nat.le_of_eq rfl) : Rm (A.over c fs) n := by
  have r := R.r
  exact ⟨⟨hh.trans r.handled, by have := r.depth; omega, by have := r.units; omega⟩⟩
theorem rm_in1 {n : Nat} (R : Rm A (n + 1)) : Rm A.in1 n := ⟨(R.r.le (n' := n + 5) (u' := (8 * n + 200) + 1) (by omega) (by omega)).in1⟩
theorem Rm.le {n m : Nat} (R : Rm A n) (h : m ≤ n) : Rm A m := ⟨R.r.le (by omega) (by omega)⟩
theorem run_loopC {cc : Code} {ι : Type} (meas : ι → Nat) (J : ι → Around → (End → Shared → Prop) → Shared → Prop)
    (step : ∀ i A Φ s, J i A Φ s → (∀ i' A' Φ' s', meas i' < meas i → J i' A' Φ' s' → Run1 (model P b.w) A' Φ' cc ((model P b.w).den cc) fs s') →
      Run1 (model P b.w) A Φ cc ((model P b.w).den cc) fs s) :
    ∀ i A Φ s, J i A Φ s → Run1 (model P b.w) A Φ cc ((model P b.w).den cc) fs s := by
  have key : ∀ n i, meas i < n → ∀ A Φ s, J i A Φ s → Run1 (model P b.w) A Φ cc ((model P b.w).den cc) fs s := by
    intro n
    induction n with
    | zero => intro i h; omega
    | succ n ih => intro i hi A Φ s hJ; exact step i A Φ s hJ fun i' A' Φ' s' h' hJ' => ih i' (by omega) A' Φ' s' hJ'
  exact fun i => key (meas i + 1) i (by omega)
end
section
variable {b : Base} {A : Around} {F : Fs} {L : Addr} {σ : Sg} {env : Env} {Φ : End → Shared → Prop} {c : Code} {fs : List Frame} {K : Flow → Sem PySem.Fin} {H : Value → Sem PySem.Fin} {gd : Bool → Bool} {lv : List Value → List Value}
theorem run_ForE {target iter : Expr} {body orelse rest : List Stmt} {pos : Pos} {s : Shared} {Q : Value → Fs → Sg → Prop} (x : St b F L σ s) (h : EvIter b (A.over c fs) F L (eval iter env) σ Q)
    (hk : ∀ it Fi σ₂ s₂, St b (Fi ++ F) L σ₂ s₂ → Q it Fi σ₂ → ∀ p, Run1 (model P b.w) A Φ (.forLoop target it body orelse env) ((model P b.w).den (.forLoop target it body orelse env))
      (.ret (fun r => ((match r with | .ok f => (.pure f : Sem Flow) | .error e => .raise e).onRaise fun (x : Value) => do
        if (← field x 1) == Value.none then unsupported "frame.own-activation:exception-without-traceback"
        setFlight x env.frame).wrap (fun (f : Flow) => match f with | .next => (execs rest env).wrap K H gd lv | f => K f) H gd lv) none (gd false) (lv []) c p [] :: fs) s₂)
    (hs : ∀ x, foldedSetIterable iter env x = pure x := by intro _; with_unfolding_all rfl) :
    Run1 (model P b.w) A Φ c ((execs (.For target iter body orelse pos :: rest) env).wrap K H gd lv) fs s := by
  refine run_cons (run_For (fun E => wpAny_mono (h s E x) (fun xv s₁ q => wpAny_mono q (fun it s₂ ⟨Fi, σ₂, y, q⟩ => ?_) fun _ _ e => e) fun _ _ e => e) hs)
  exact hk it Fi σ₂ s₂ y q
theorem run_flE {x : Str} {px : Pos} {it : Value} {body : List Stmt} {s : Shared} {Fi : Fs} (D : Sg → Prop) (I : Value → Fs → Sg → Prop) (y : St b (Fi ++ F) L σ s) (h : Next b (A.over (.forLoop (.Name x px) it body [] env) fs) F L it Fi σ D I)
    (hd : ∀ σ' s', St b F L σ' s' → D σ' → ∀ c', Run1 (model P b.w) A Φ c' (.pure (.done .next)) fs s')
    (hi : ∀ v Fi' σ' s', St b (Fi' ++ F) L (σ'.setL x v) s' → I v Fi' σ' →
          Run1 (model P b.w) A Φ (.forLoop (.Name x px) it body [] env) ((execs body env).wrap (fun f => match f with
            | .next | .cont => .pure (.again (.forLoop (.Name x px) it body [] env))
            | .brk => .pure (.done .next)
            | .ret v => .pure (.done (.ret v))) (fun e => (do noteFrame e env; theTreesLotGoes e : Sem Unit).wrap (fun _ => .raise e) .raise id id) id id) fs s')
    (hL : env.locals = L := by with_unfolding_all rfl) (hk : env.scope.kind = .function := by with_unfolding_all rfl) (hl : env.kindOf x = some .local := by with_unfolding_all rfl) :
    Run1 (model P b.w) A Φ (.forLoop (.Name x px) it body [] env) ((model P b.w).den (.forLoop (.Name x px) it body [] env)) fs s := by
  refine run_forLoop fun E => wpAny_mono (h s E y) (fun r s₁ q => ?_) fun _ _ e => e
  cases r with
  | none => obtain ⟨σ', y', q⟩ := q; exact hd σ' s₁ y' q
  | some v =>
    obtain ⟨Fi', σ', y', q⟩ := q
    intro E'
    refine wpAny_mono (w_storeL (Q := fun _ τ => τ = σ'.setL x v) hL rfl hk hl s₁ E' y') (fun _ s₂ ⟨τ, y2, e⟩ => ?_) fun _ _ e => e
    subst e
    exact hi v Fi' σ' s₂ y2 q
theorem run_IfE {test : Expr} {body orelse rest : List Stmt} {pos : Pos} {s : Shared} {Q : Bool → Sg → Prop} (x : St b F L σ s) (h : W b (A.over c fs) F L (isTrue test env (eval test env)) σ Q)
    (ht : ∀ σ' s', St b F L σ' s' → Q true σ' → Run1 (model P b.w) A Φ c ((execs body env).wrap (fun (f : Flow) => match f with | .next => (execs rest env).wrap K H gd lv | f => K f) H gd lv) fs s')
    (hf : ∀ σ' s', St b F L σ' s' → Q false σ' → Run1 (model P b.w) A Φ c ((execs orelse env).wrap (fun (f : Flow) => match f with | .next => (execs rest env).wrap K H gd lv | f => K f) H gd lv) fs s') :
    Run1 (model P b.w) A Φ c ((execs (.If test body orelse pos :: rest) env).wrap K H gd lv) fs s := by
  refine run_cons ?_
  show Run1 _ _ _ _ ((standAt pos >>= fun _ => isTrue test env (eval test env) >>= fun t => if t then execs body env else execs orelse env).wrap _ _ _ _) _ _
  refine run_bw (wpAny_standAt (run_bw (wpAny_mono (h s _ x) (fun t s' ⟨σ', y, q⟩ => ?_) fun _ _ e => e)))
  cases t with
  | true => exact ht σ' s' y q
  | false => exact hf σ' s' y q
end

/-- a predicate that a scan asks -/
structure Pd (b : Base) (g : Gf) (K : Sg → Prop) (d : Nat) (pv : Addr) (Dm : Addr → Prop) (p : Addr → Bool) : Prop where
  mono : ∀ σ τ, Ext σ τ → K σ → K τ
  gr : ∀ σ, K σ → Gr σ g
  at_ : ∀ σ, K σ → ∃ fd, σ.at_ pv = some (.obj { cls := .type "function", data := .func fd })
  call : ∀ A F L σ t, Rm A d → K σ → Dm t → WC b A F L (.call (.ref pv) ⟨[.ref t], []⟩) σ fun v σ' => v = .bool (p t) ∧ ESt σ σ'

/-- what a scan tells of the children -/
def scanK (g : Gf) (p : Addr → Bool) (n : Nat) (ks : List Addr) : List Addr := (ks.flatMap fun k => if isTree g k then gtoks g n k else [k]).filter p

theorem scan_gi {b : Base} (G : Glb b) {g : Gf} {K : Sg → Prop} {d : Nat} {pv : Addr} {Dm : Addr → Prop} {p : Addr → Bool} (PD : Pd b g K d pv Dm p) (hDm : ∀ t nd, g t = some nd → isTree g t = false → Dm t) {body : List Stmt} (hb : fScan.1.body = .stmts body) :
    ∀ n x, isTree g x = true → Dp g n x → ∀ (f : Addr) (cs : List (Str × Addr)) (Lg a gi : Nat) (mg : NsMap), mg "self" = some (.ref x) → mg "pred" = some (.ref pv) →
    GI b a gi (d + 2 * n + 2) K (((gtoks g n x).filter p).map .ref) [(Lg, .ns mg)] (.fresh (.func body (fnEnv fScan.1 Lg cs f))) := by
  have hb' := FuncBody.stmts.inj (show FuncBody.stmts _ = FuncBody.stmts body from hb)
  subst hb'
  intro n
  induction n with
  | zero => intro x hx ⟨_, _, _, e⟩; unfold isTree at hx; rw [e] at hx; cases hx
  | succ n ih =>
    intro x hx hD f cs Lg a gi mg hms hmp
    obtain ⟨dx, lx, nm, ks, hg⟩ := node_of hx
    have hD' : ∀ k ∈ ks, Dp g n k := by unfold Dp at hD; rw [hg] at hD; exact hD
    have hrem : (gtoks g (n + 1) x).filter p = scanK g p n ks := by unfold gtoks; rw [hg]; rfl
    rw [hrem]
    refine GI.of fun A F L σ s R hK y => ?_
    show Run1 _ A _ (.func _ _) _ [] s
    refine run_func ?_
    have y1 := St.wakeG (Fi := []) y
    refine run_ForE (Q := fun it Fi σ₂ => ∃ ito, it = .ref ito ∧ Fi = [(ito, .cl (itObj lx 0))] ∧ σ₂ = σ.setM mg) y1 ?_ ?_
    · refine EvIter.of ?_
      repeat k_subL
      refine w_children G ((PD.gr _ hK x _ hg).ext ?_) ?_
      · k_offL
      exact iter_list ((PD.gr _ hK x _ hg).ext (show Ext σ (σ.setM mg) by k_offL)).2 fun ito => ⟨ito, rfl, rfl, rfl⟩
    rintro _ _ _ s2 y2 ⟨ito, rfl, rfl, rfl⟩ pp
    have y3 : St b ((a, .gen gi .running) :: (Lg, .ns mg) :: ([(ito, .cl (itObj lx 0))] ++ F)) L σ s2 := St.sleepG y2
    refine run_loopC (fun i : Nat => ks.length - i) (fun i A Φ s => ∃ F L σ₀ σ mg, i ≤ ks.length ∧ Rm A (d + 2 * (n + 1) + 2) ∧ K σ ∧ ESt σ₀ σ ∧ Φ = EndP b a gi F L σ₀ (GI b a gi (d + 2 * (n + 1) + 2) K) ((scanK g p n (ks.drop i)).map .ref) ∧
      mg "pred" = some (.ref pv) ∧ St b ((a, .gen gi .running) :: (Lg, .ns mg) :: ([(ito, .cl (itObj lx i))] ++ F)) L σ s) ?_ 0 A _ s2 ⟨F, L, σ, σ, mg, Nat.zero_le _, R, hK, ESt.rfl, rfl, hmp, y3⟩
    clear hK R y3 y2 y1 y
    rintro i A Φ s ⟨F, L, σ₀, σ, mg, hi, R, hK, hE, rfl, hmp, y⟩ ih1
    have y1 := St.wakeG y
    have hlx := ((PD.gr _ hK x _ hg).ext (show Ext σ (σ.setM mg) by k_offL)).2
    refine run_flE (fun τ => τ = σ.setM mg ∧ i = ks.length) (fun v Fi' τ => ∃ k, v = .ref k ∧ ks[i]? = some k ∧ Fi' = [(ito, .cl (itObj lx (i + 1)))] ∧ τ = σ.setM mg) y1 ?_ ?_ ?_
    · refine next_list (rm_over R).hh hlx (fun hx => ⟨rfl, ?_⟩) fun v hv => ?_
      · have := List.getElem?_eq_none_iff.mp hx; rw [List.length_map] at this; omega
      · obtain ⟨c, rfl, hc⟩ := kidAt hv
        exact ⟨c, rfl, hc, rfl, rfl⟩
    · rintro τ s' y' ⟨rfl, rfl⟩ c'
      refine run_leaf (.ok .next) ?_
      refine run_end (.ok (.ret .none)) ?_
      rw [List.drop_length]
      refine ⟨rfl, σ, ?_, hE⟩
      have y2 := St.sleepG (Fi := []) y'
      exact (y2.perm (List.Perm.swap _ _ _)).dropF
    rintro _ _ _ s' y' ⟨k, rfl, hk, rfl, rfl⟩
    have hki : i < ks.length := (List.getElem?_eq_some_iff.mp hk).1
    have hkm : k ∈ ks := List.mem_of_getElem? hk
    obtain ⟨nd, hnd⟩ := Dp.some (hD' k hkm)
    have hTn := isTree_of hnd
    have hdrop : ks.drop i = k :: ks.drop (i + 1) := by
      have := List.getElem?_eq_some_iff.mp hk
      rw [← this.2]; exact List.drop_eq_getElem_cons hki
    have hE0 : Ext σ ((σ.setM mg).setL "c" (.ref k)) := Ext.setL (Ext.setM Ext.rfl)
    have hm0 : ((σ.setM mg).setL "c" (.ref k)).m "pred" = some (.ref pv) := by
      refine getL_skip (by decide) hmp
    have hc0 : ((σ.setM mg).setL "c" (.ref k)).m "c" = some (.ref k) := getL_same
    generalize hτ0 : ((σ.setM mg).setL "c" (.ref k)) = τ0 at hE0 hm0 hc0
    have y' : St b ([(ito, .cl (itObj lx (i + 1)))] ++ ((L, .ns σ.m) :: (a, .gen gi .running) :: F)) Lg τ0 s' := hτ0 ▸ y'
    have hEb : ESt σ₀ (τ0.setM σ.m) := ⟨hE.1.trans hE0.setM, hE.2⟩
    refine run_IfE (Q := fun t τ => t = isTree g k ∧ τ = τ0) y' ?_ ?_ ?_
    · repeat k_subL
      refine w_isTree (nd := nd) G ((PD.gr _ hK k _ hnd).ext hE0) ?_
      repeat k_subL
      exact ⟨hTn.symm, rfl⟩
    · rintro τ s1 y2 ⟨ht, rfl⟩
      obtain ⟨dk, lk, nk, kk, hgk⟩ := node_of ht.symm
      have hsc : scanK g p n (ks.drop i) = (gtoks g n k).filter p ++ scanK g p n (ks.drop (i + 1)) := by
        rw [hdrop]; unfold scanK; rw [List.flatMap_cons, List.filter_append, ← ht]
        simp
      refine run_ForE (Q := fun it Fi τ' => ∃ a2 gi2 gs2 Fg2, it = .ref a2 ∧ Fi = (a2, .gen gi2 gs2) :: Fg2 ∧ GI b a2 gi2 (d + 2 * n + 2) K (((gtoks g n k).filter p).map .ref) Fg2 gs2 ∧ τ' = τ) y2 ?_ ?_
      · refine V.iter ?_
        refine v_callM ?_
        repeat k_subL
        refine w_meth (f := 125) G ((PD.gr _ hK k _ hgk).ext hE0) (by kernel_rfl) (by kernel_rfl) ⟨by decide, by decide, by decide⟩ ?_
        refine v_cwK G (by kernel_rfl) ?_
        repeat k_subL
        refine VC.call (vc_gen (fd := fScan.1) (binds := [("self", Value.ref k), ("pred", Value.ref pv)]) G (fScan.2 _) (by kernel_rfl) rfl (rm_over R).dep rfl fun L2 => ?_)
        show ∀ a gi, _
        intro a2 gi2
        exact ⟨a2, gi2, _, _, rfl, rfl, a2, gi2, _, _, rfl, rfl, ih k ht.symm (hD' k hkm) _ _ _ _ _ _ (getL_skip (by decide) getL_same) getL_same, rfl⟩
      rintro _ _ τ s2 y3 ⟨a2, gi2, gs2, Fg2, rfl, rfl, hG2, rfl⟩ p2
      have y4 : St b (((a2, .gen gi2 gs2) :: Fg2 ++ [(ito, .cl (itObj lx (i + 1)))]) ++ ((L, .ns σ.m) :: (a, .gen gi .running) :: F)) Lg τ s2 := by
        rw [List.append_assoc]; exact y3
      have y5 := St.sleepG y4
      rw [hsc]
      have hEm : Ext σ (τ.setM σ.m) := hE0.setM
      refine run_loopC (fun rem2 : List Value => rem2.length) (fun rem2 A Φ s => ∃ F L σ₀ σ mg gs2 Fg2, Rm A (d + 2 * (n + 1) + 2) ∧ K σ ∧ ESt σ₀ σ ∧ GI b a2 gi2 (d + 2 * n + 2) K rem2 Fg2 gs2 ∧
        Φ = EndP b a gi F L σ₀ (GI b a gi (d + 2 * (n + 1) + 2) K) (rem2 ++ (scanK g p n (ks.drop (i + 1))).map .ref) ∧
        mg "pred" = some (.ref pv) ∧ St b ((a, .gen gi .running) :: (Lg, .ns mg) :: (((a2, .gen gi2 gs2) :: Fg2 ++ [(ito, .cl (itObj lx (i + 1)))]) ++ F)) L σ s) ?_ (((gtoks g n k).filter p).map .ref) A _ s2
        ⟨F, L, σ₀, τ.setM σ.m, τ.m, gs2, Fg2, R, PD.mono _ _ hEm hK, hEb, hG2, by rw [List.map_append], hm0, y5⟩
      clear y5 y4 y3 y2 y' y1 y hτ0 hEm hEb hsc hc0 hm0 hE0 hlx hE hmp hK R hG2
      rintro rem2 A Φ s ⟨F, L, σ₀, σ, mg, gs2, Fg2, R, hK, hE, hG2, rfl, hmp, y⟩ ih2
      have y1 := St.wakeG y
      rw [List.append_assoc] at y1
      have hKm : K (σ.setM mg) := PD.mono _ _ (Ext.setM Ext.rfl) hK
      refine run_flE (fun τ => rem2 = [] ∧ ESt (σ.setM mg) τ) (fun v Fi' τ => ∃ rem' Fg' gs', rem2 = v :: rem' ∧ Fi' = (a2, .gen gi2 gs') :: Fg' ∧ ESt (σ.setM mg) τ ∧ GI b a2 gi2 (d + 2 * n + 2) K rem' Fg' gs') y1 ?_ ?_ ?_
      · exact next_gi G (rm_in1 (rm_over (R.le (m := d + 2 * n + 4) (by omega)))) hKm hG2 (fun e σ' hE => ⟨e, hE⟩) (fun v rem' e Fg' gs' σ' hE h' => ⟨rem', Fg', gs', e, rfl, hE, h'⟩)
      · rintro τ s' y' ⟨rfl, hEτ⟩ c'
        refine run_leaf (.ok .next) ?_
        refine run_again rfl ?_
        have y2 : St b ([(ito, .cl (itObj lx (i + 1)))] ++ ((L, .ns σ.m) :: (a, .gen gi .running) :: F)) Lg τ s' := y'
        have hEs : Ext σ (τ.setM σ.m) := (Ext.setM (Ext.rfl (σ := σ)) (m := mg)).trans hEτ.1.setM
        refine ih1 (i + 1) A _ _ (by omega) ⟨F, L, σ₀, τ.setM σ.m, τ.m, by omega, R, PD.mono _ _ hEs hK, ⟨hE.1.trans hEs, hE.2⟩, rfl, ?_, St.sleepG y2⟩
        rw [hEτ.2]; exact hmp
      · rintro v Fi' τ s' y' ⟨rem', Fg', gs', rfl, rfl, hEτ, hG'⟩
        have hEs : Ext σ ((τ.setL "t" v).setM σ.m) := (Ext.setM (Ext.rfl (σ := σ)) (m := mg)).trans hEτ.1.setL.setM
        have hmt : (τ.setL "t" v).m "t" = some v := getL_same
        have hmp' : (τ.setL "t" v).m "pred" = some (.ref pv) := getL_skip (by decide) (by rw [hEτ.2]; exact hmp)
        generalize hτ1 : τ.setL "t" v = τ1 at hEs hmt hmp'
        have y2 : St b (((a2, .gen gi2 gs') :: Fg' ++ [(ito, .cl (itObj lx (i + 1)))]) ++ ((L, .ns σ.m) :: (a, .gen gi .running) :: F)) Lg τ1 s' := by
          rw [List.append_assoc]; exact hτ1 ▸ y'
        refine run_yl (Q := fun vv τ3 => vv = v ∧ τ3 = τ1) rfl y2 ?_ ?_
        · repeat k_subL
          exact ⟨rfl, rfl⟩
        rintro _ τ3 s4 y4 ⟨rfl, rfl⟩ l kk p' hk'
        refine ⟨rfl, rfl, (Lg, .ns τ3.m) :: ((a2, .gen gi2 gs') :: Fg' ++ [(ito, .cl (itObj lx (i + 1)))]), τ3.setM σ.m, St.sleepG y4, ⟨hE.1.trans hEs, hE.2⟩, GI.of fun A2 F2 L2 σ2 s5 R2 hK2 y5 => hk' _ _ _ ?_⟩
        refine run_nil (run_again rfl ?_)
        exact ih2 rem' A2 _ _ (by simp) ⟨F2, L2, σ2, σ2, τ3.m, gs', Fg', R2, hK2, ESt.rfl, hG', rfl, hmp', y5⟩
    · rintro τ s1 y2 ⟨ht, rfl⟩
      have hsc : scanK g p n (ks.drop i) = (if p k then [k] else []) ++ scanK g p n (ks.drop (i + 1)) := by
        rw [hdrop]; unfold scanK; rw [List.flatMap_cons, List.filter_append, ← ht]
        congr 1
        simp [List.filter_cons]
      refine run_IfE (Q := fun t τ' => t = p k ∧ ESt τ τ') y2 ?_ ?_ ?_
      · repeat k_subL
        refine w_callN ?_
        repeat k_subL
        obtain ⟨fd, hfd⟩ := PD.at_ _ (PD.mono _ _ hE0 hK)
        refine w_cwF ?_ hfd
        repeat k_subL
        refine ⟨hfd, WC.call (WC.mono (PD.call _ _ _ _ k ((rm_over R).le (by omega)) (PD.mono _ _ hE0 hK) (hDm _ _ hnd ht.symm)) fun v σ' ⟨hv, hE'⟩ => ?_)⟩
        subst hv
        repeat k_subL
        exact ⟨rfl, hE'⟩
      · rintro τ' s2 y3 ⟨hp, hE'⟩
        refine run_yl (Q := fun vv τ3 => vv = .ref k ∧ τ3 = τ') rfl y3 ?_ ?_
        · repeat k_subL
          exact ⟨rfl, rfl⟩
        rintro _ τ3 s4 y4 ⟨rfl, rfl⟩ l kk p' hk'
        rw [hsc, ← hp]
        refine ⟨rfl, rfl, (Lg, .ns τ3.m) :: [(ito, .cl (itObj lx (i + 1)))], τ3.setM σ.m, St.sleepG y4, ⟨hEb.1.trans (hE'.1.m _ _), hE.2⟩, GI.of fun A2 F2 L2 σ2 s5 R2 hK2 y5 => hk' _ _ _ ?_⟩
        refine run_nil (run_again rfl ?_)
        refine ih1 (i + 1) A2 _ _ (by omega) ⟨F2, L2, σ2, σ2, τ3.m, by omega, R2, hK2, ESt.rfl, rfl, ?_, y5⟩
        rw [hE'.2]; exact hm0
      · rintro τ' s2 y3 ⟨hp, hE'⟩
        refine run_nil (run_again rfl ?_)
        refine ih1 (i + 1) A _ _ (by omega) ⟨F, L, σ₀, τ'.setM σ.m, τ'.m, by omega, R, PD.mono _ _ ((hE0.trans hE'.1).setM) hK, ⟨hEb.1.trans (hE'.1.m _ _), hE.2⟩, ?_, ?_, St.sleepG y3⟩
        · rw [hsc, ← hp]; rfl
        · rw [hE'.2]; exact hm0
end PartC20

section PartC21
open PySem PySem.W PyProof.Rows PySem.Calls
open AutoSeq1 (wpAny_loadPart')
set_option maxRecDepth 100000
set_option maxHeartbeats 400000
set_option linter.unusedVariables false

theorem flt_owner : Manifest.owners.lookup (String.ofList ['r', 'e', 't', 'l', 'i', 'f'].reverse) = some Manifest.sig_filter := by kernel_rfl
theorem flt_slot_next : Slot "filter" "__next__" "filter.__next__" :=
  .of (owner := "filter") (n := "__next__") (by rw [typeLookup_type, builtinLookup_eq_fast]; kernel_rfl) (by decide +kernel) (by decide +kernel) (by decide +kernel)
    (by first | exact .inl (by decide +kernel) | exact .inr (by decide +kernel)) (by rw [isSubtype_type]; kernel_rfl)
theorem flt_entry_next : entryFor table "filter.__next__" = some Builtin.«filter.__next__» := entryFor_of_tree (by kernel_rfl)
theorem flt_args_next (a : Value) : argsOk "filter.__next__" ⟨[a], []⟩ := by
  unfold argsOk; rw [signature?_of (id := "filter.__next__") (n := ['_', '_', 't', 'x', 'e', 'n', '_', '_']) (o := ['r', 'e', 't', 'l', 'i', 'f']) (by kernel_rfl) flt_owner]; kernel_rfl
theorem flt_slot_iter : Slot "filter" "__iter__" "filter.__iter__" :=
  .of (owner := "filter") (n := "__iter__") (by rw [typeLookup_type, builtinLookup_eq_fast]; kernel_rfl) (by decide +kernel) (by decide +kernel) (by decide +kernel)
    (by first | exact .inl (by decide +kernel) | exact .inr (by decide +kernel)) (by rw [isSubtype_type]; kernel_rfl)
theorem flt_args_iter (a : Value) : argsOk "filter.__iter__" ⟨[a], []⟩ := by
  unfold argsOk; rw [signature?_of (id := "filter.__iter__") (n := ['_', '_', 'r', 'e', 't', 'i', '_', '_']) (o := ['r', 'e', 't', 'l', 'i', 'f']) (by kernel_rfl) flt_owner]; kernel_rfl
theorem flt_entry_iter : entryFor table "filter.__iter__" = some Builtin.«dict_keyiterator.__iter__» :=
  entryFor_alias (id' := "dict_keyiterator.__iter__") (by kernel_rfl) (by first | rfl | decide +kernel | (unfold String.splitOn; simp +decide [String.splitOnAux])) (by decide +kernel) (by kernel_rfl)
theorem flt_slot_init : Slot "filter" "__init__" "object.__init__" :=
  .of (owner := "object") (n := "__init__") (by rw [typeLookup_type, builtinLookup_eq_fast]; kernel_rfl) (by decide +kernel) (by decide +kernel) (by decide +kernel)
    (by first | exact .inl (by decide +kernel) | exact .inr (by decide +kernel)) (by rw [isSubtype_type]; kernel_rfl)
theorem flt_mro : mroOf (.type "filter") = pure [.type "filter", .type "object"] := by rw [mroOf_type]; kernel_rfl
theorem flt_new : typeLookup (.type "filter") "__new__" = pure (some (.builtin "filter.__new__")) := by rw [typeLookup_type, builtinLookup_eq_fast]; kernel_rfl
theorem flt_called : TypeCalled "filter" "filter.__new__" "object.__init__" :=
  ⟨by decide +kernel, by decide +kernel, ⟨_, _, flt_mro⟩, madeBy_type flt_mro flt_new (by decide +kernel), by decide +kernel, by rw [isSubtype_type]; kernel_rfl, flt_slot_init⟩
theorem flt_typeCall (a b : Value) : checkTypeCall "filter" ⟨[a, b], []⟩ = pure () := by kernel_rfl
theorem flt_newCall (a b : Value) : checkBuiltinCall "filter.__new__" ⟨[.type "filter", a, b], []⟩ = pure () := by kernel_rfl
theorem flt_entry_new : entryFor table "filter.__new__" = some Builtin.«filter.__new__» := entryFor_of_tree (by kernel_rfl)
theorem flt_sub : isSubtype (.type "filter") (.type "filter") = pure true := by rw [isSubtype_type]; kernel_rfl
def fltObj (f it : Addr) : Obj := { cls := .type "filter", data := .fields #[.ref f, .ref it] }
theorem flt_meets (f l : Addr) (items : Array Value) (n : Nat) :
    Meets (Builtin.«filter.__new__» ⟨[.type "filter", .ref f, .ref l], []⟩) (fun _ R s => s.heap.get? l = some { cls := .type "list", dict := none, data := .seq items n, slots := #[] } ∧
      R (.ok (.ret (.ref (s.heap.push { cls := .type "list_iterator", data := .fields #[.ref l, .int 0 0] }).objs.size)))
        { s with heap := (s.heap.push { cls := .type "list_iterator", data := .fields #[.ref l, .int 0 0] }).push (fltObj f s.heap.objs.size) }) :=
  .of_wp fun prog w A R s h => by
    obtain ⟨hp, g, d, tk, os⟩ := s; obtain ⟨hl, h⟩ := h
    have hsub := flt_sub
    have hL : Heap.IsList (Shared.heap ⟨hp, g, d, tk, os⟩) l items := ⟨_, hl, rfl, n, rfl⟩
    wp_walk using wpAny_loadPart' hl, wpAny_pyIter_list hL
    exact ⟨_, rfl, h⟩

section
variable {b : Base} {A : Around} {F : Fs} {L : Addr} {σ : Sg} {env : Env}
theorem v_filter {pv l : Addr} {xs : List Value} {Q : Value → Fs → Sg → Prop} (hl : σ.at_ l = some (.lst xs))
    (h : ∀ fo it, Q (.ref fo) [(fo, .cl (.obj (fltObj pv it))), (it, .cl (itObj l 0))] σ) : V b A F L (call (.type "filter") [.ref pv, .ref l]) σ Q := fun s E x => by
  obtain ⟨n, g⟩ := x.isL hl
  refine callType_new flt_called (by decide) (flt_typeCall _ _) (flt_newCall _ _) (fun obj => PySem.F.args_object_init_3 obj _ _) flt_entry_new (flt_meets pv l xs.toArray n) ⟨g, ?_⟩
  have z := (x.allocF (o := { cls := .type "list_iterator", data := .fields #[.ref l, .int 0 0] }) (k := .cl (itObj l 0)) ⟨_, Heap.get?_push_size _ rfl, rfl, rfl⟩).2
  have z2 := (z.allocF (o := fltObj pv s.heap.objs.size) (k := .cl (.obj (fltObj pv s.heap.objs.size))) (Heap.get?_push_size _ rfl)).2
  exact ⟨⟨_, Heap.get?_push_size _ rfl, rfl⟩, [(_, _), (_, _)], σ, z2, h _ _⟩
theorem Self.flt {fo it pv : Addr} {Fi : Fs} : Self b A (.ref fo) ((fo, .cl (.obj (fltObj pv it))) :: Fi) := fun s E Q F L σ y h => by
  have hT : s.TypeIs (.ref fo) "filter" := ⟨_, y.fr (fo, .cl (.obj (fltObj pv it))) (.head _), rfl⟩
  refine wpAny_pyIter_slot hT flt_slot_iter (wpAny_call_entry flt_slot_iter hT flt_entry_iter ?_ (flt_args_iter _))
  show wpAny _ _ (ret (.ref fo)) _ _ s
  exact wpAny_pure ⟨_, rfl, "filter", _, hT, flt_slot_next.lookup, h⟩

/-- the iterator's next, asked by a filter -/
theorem cs_item {a l : Addr} {i : Nat} {xs : List Value} {v : Value} {s : Shared} {E : Value → Shared → Prop} {Q : Option Value → Shared → Prop} (hl : σ.at_ l = some (.lst xs)) (hv : xs[i]? = some v) (y : St b ((a, .cl (itObj l i)) :: F) L σ s)
    (h : ∀ s', St b ((a, .cl (itObj l (i + 1))) :: F) L σ s' → Q (some v) s') : wpAny (model P b.w) A (callSpecial? (.ref a) "__next__") Q E s := by
  have hit : s.heap.IsListIter a l i := y.fr (a, .cl (itObj l i)) (.head _)
  obtain ⟨o, ho, hc, hd⟩ := id hit
  obtain ⟨ol, hol, _, nl, hdl⟩ := y.isList hl
  refine wpAny_callSpecial?_slot (name := Str.ofString "__next__") hit.typeIs slot_listiter_next (wpAny_call_entry slot_listiter_next hit.typeIs entry_listiter_next ?_ (args_listiter_next _))
  show wpAny _ _ (field (.ref a) 0 >>= _) _ _ s
  refine wpAny_bind (wpAny_field ho hd (x := .ref l) rfl ?_)
  show wpAny _ _ (if (Value.ref l == Value.none) = true then _ else _) _ _ s
  rw [if_neg (show ¬ ((Value.ref l == Value.none) = true) from Bool.false_ne_true)]
  show wpAny _ _ (field (.ref a) 1 >>= _) _ _ s
  refine wpAny_bind (wpAny_field ho hd (x := .int i 0) rfl ?_)
  show wpAny _ _ (seqItems? (.ref l) >>= _) _ _ s
  refine wpAny_bind (wpAny_seqItems hol hdl ?_)
  have hx : xs.toArray[((i : Nat) : Int).toNat]? = some v := by simpa using hv
  simp only [hx]
  refine wpAny_bind (wpAny_setField ho hd (by simp) (wpAny_pure ⟨v, rfl, ?_⟩))
  refine h _ (St.changeF y (fun b o n e => (Heap.SameBut.update ..).extBut b o n e) ?_)
  exact ⟨_, Heap.get?_update_self _ ho (Obj.isFreed_of_fields (Obj.data_mapFields hd _)), (Obj.cls_mapFields ..).trans hc, by
    rw [Obj.data_mapFields hd]; simp [rawInt]⟩
theorem cs_end {a l : Addr} {i : Nat} {xs : List Value} {s : Shared} {E : Value → Shared → Prop} {Q : Option Value → Shared → Prop} (hh : A.handled = none) (hl : σ.at_ l = some (.lst xs)) (hv : xs[i]? = none) (y : St b ((a, .cl (itObj l i)) :: F) L σ s)
    (h : ∀ e s', St b F L σ s' → (∃ o, s'.heap.get? e = some o ∧ o.cls = .type "StopIteration") → E (.ref e) s') : wpAny (model P b.w) A (callSpecial? (.ref a) "__next__") Q E s := by
  have hit : s.heap.IsListIter a l i := y.fr (a, .cl (itObj l i)) (.head _)
  obtain ⟨o, ho, hc, hd⟩ := id hit
  obtain ⟨ol, hol, _, nl, hdl⟩ := y.isList hl
  refine wpAny_callSpecial?_slot (name := Str.ofString "__next__") hit.typeIs slot_listiter_next (wpAny_call_entry slot_listiter_next hit.typeIs entry_listiter_next ?_ (args_listiter_next _))
  show wpAny _ _ (field (.ref a) 0 >>= _) _ _ s
  refine wpAny_bind (wpAny_field ho hd (x := .ref l) rfl ?_)
  show wpAny _ _ (if (Value.ref l == Value.none) = true then _ else _) _ _ s
  rw [if_neg (show ¬ ((Value.ref l == Value.none) = true) from Bool.false_ne_true)]
  show wpAny _ _ (field (.ref a) 1 >>= _) _ _ s
  refine wpAny_bind (wpAny_field ho hd (x := .int i 0) rfl ?_)
  show wpAny _ _ (seqItems? (.ref l) >>= _) _ _ s
  refine wpAny_bind (wpAny_seqItems hol hdl ?_)
  have hx : xs.toArray[((i : Nat) : Int).toNat]? = none := by simpa using hv
  simp only [hx]
  refine wpAny_bind (wpAny_rule (wpAny_bind (wpAny_setField ho hd (by simp) ?_)))
  show wpAny _ _ (newExc (.type "StopIteration") [] >>= _) _ _ _
  refine wpAny_bind ?_
  simp only [newExc, newTuple]
  refine wpAny_bind (wpAny_newObj_type ?_ (by size_fits))
  refine wpAny_bind (m := firstArgMember _ _) (wpAny_of_eq (a := Value.none) (by first | rfl | (simp only [firstArgMember]; rfl)) ?_)
  refine wpAny_newObj_type ?_ (by size_fits)
  simp only [raiseNew]
  refine wpAny_bind (wpAny_handled ?_)
  first | rw [show A.in1.handled = none from hh] | rw [hh]
  refine wpAny_bind (wpAny_pure (wpAny_throw ?_))
  refine h _ _ ?_ ⟨_, Heap.get?_push_size _ rfl, rfl⟩
  have key : ∀ h1, (∀ y o, y ≠ a → s.heap.get? y = some o → h1.get? y = some o) → St b F L σ { s with heap := h1 } := fun h1 hk => St.endF y hk
  exact key _ fun b o n e => Heap.get?_push_of_some _ (Heap.get?_push_of_some _ ((Heap.SameBut.update ..).extBut b o n e))
end
end PartC21

section PartC22
open PySem PySem.W PyProof.Rows PySem.Calls
set_option maxRecDepth 100000
set_option maxHeartbeats 400000
set_option linter.unusedVariables false

theorem flt_loop {b : Base} {A : Around} {g : Gf} {K : Sg → Prop} {d : Nat} {pv : Addr} {Dm : Addr → Prop} {p : Addr → Bool} (PD : Pd b g K d pv Dm p) (R : Rm A.in1 d) {fo it l : Addr} {xs : List Addr} (hx : ∀ a ∈ xs, Dm a) (hl : ∀ σ, K σ → σ.at_ l = some (.lst (xs.map .ref))) :
    ∀ k i, i + k = xs.length → ∀ F L σ s (R' : Result → Shared → Prop), K σ → St b ((fo, .cl (.obj (fltObj pv it))) :: (it, .cl (itObj l i)) :: F) L σ s →
    ((xs.drop i).filter p = [] → ∀ e s' σ', St b F L σ' s' → ESt σ σ' → (∃ o, s'.heap.get? e = some o ∧ o.cls = .type "StopIteration") → R' (.error (.ref e)) s') →
    (∀ j v σ' s', (xs.drop i).filter p = v :: (xs.drop j).filter p → j ≤ xs.length → St b ((fo, .cl (.obj (fltObj pv it))) :: (it, .cl (itObj l j)) :: F) L σ' s' → ESt σ σ' → R' (.ok (.ret (.ref v))) s') →
    wpAny (model P b.w) A.in1 (Builtin.«filter.__next__» ⟨[.ref fo], []⟩) (fun fin s' => match fin with | .done f => R' (.ok f) s' | .again c' => c'.quiet = true ∧ codeAny (model P b.w) A c' R' s') (fun e s' => R' (.error e) s') s := by
  intro k
  induction k with
  | zero =>
    intro i hi F L σ s R' hK y hD hI
    have ho : s.heap.get? fo = some (fltObj pv it) := y.fr (fo, .cl (.obj (fltObj pv it))) (.head _)
    show wpAny _ _ (field (.ref fo) 0 >>= _) _ _ _
    refine wpAny_bind (wpAny_field ho rfl (x := .ref pv) rfl ?_)
    show wpAny _ _ (field (.ref fo) 1 >>= _) _ _ _
    refine wpAny_bind (wpAny_field ho rfl (x := .ref it) rfl ?_)
    refine wpAny_bind (cs_end (i := i) R.hh (hl _ hK) (by rw [List.getElem?_eq_none]; rw [List.length_map]; omega) (y.perm (List.Perm.swap _ _ _)) fun e s' y' he => ?_)
    exact hD (by rw [List.drop_of_length_le (by omega)]; rfl) e s' σ y'.dropF ESt.rfl he
  | succ k ih =>
    intro i hi F L σ s R' hK y hD hI
    have ho : s.heap.get? fo = some (fltObj pv it) := y.fr (fo, .cl (.obj (fltObj pv it))) (.head _)
    have hlt : i < xs.length := by omega
    show wpAny _ _ (field (.ref fo) 0 >>= _) _ _ _
    refine wpAny_bind (wpAny_field ho rfl (x := .ref pv) rfl ?_)
    show wpAny _ _ (field (.ref fo) 1 >>= _) _ _ _
    refine wpAny_bind (wpAny_field ho rfl (x := .ref it) rfl ?_)
    refine wpAny_bind (cs_item (i := i) (v := .ref xs[i]) (hl _ hK) (by rw [List.getElem?_map, List.getElem?_eq_getElem hlt]; rfl) (y.perm (List.Perm.swap _ _ _)) fun s1 y1 => ?_)
    have y1 := y1.perm (List.Perm.swap _ _ _)
    have hdr : (xs.drop i).filter p = (if p xs[i] then [xs[i]] else []) ++ (xs.drop (i + 1)).filter p := by
      rw [List.drop_eq_getElem_cons hlt, List.filter_cons]; split <;> rfl
    dsimp only
    refine wpAny_bind (wpAny_holding ?_)
    rw [if_neg (show ¬ ((Value.ref pv == Value.none || Value.ref pv == Value.type "bool") = true) from Bool.false_ne_true)]
    refine wpAny_bind (wpAny_mono (WC.call (PD.call _ _ _ _ xs[i] R hK (hx _ (List.getElem_mem hlt))) s1 _ y1) (fun v s2 ⟨σ2, y2, hv, hE⟩ => ?_) fun _ _ e => e)
    subst hv
    refine wpAny_holding (wpAny_truthy_bool ?_)
    cases hp : p xs[i] with
    | true =>
      rw [hp, if_pos rfl] at hdr
      rw [if_pos rfl]
      exact wpAny_pure (hI (i + 1) xs[i] σ2 s2 hdr (by omega) y2 hE)
    | false =>
      rw [hp, if_neg Bool.false_ne_true, List.nil_append] at hdr
      rw [if_neg Bool.false_ne_true]
      refine wpAny_pure ⟨plainId_quiet flt_slot_next.plain _, codeAny_builtin flt_entry_next (by
        rw [Around.under_plainId flt_slot_next.plain _]
        exact ih (i + 1) (by omega) F L σ2 s2 R' (PD.mono _ _ hE.1 hK) y2 (fun e e' s' σ' y' hE' he => hD (hdr.trans e) e' s' σ' y' (hE.trans hE') he)
          fun j v σ' s' e hj y' hE' => hI j v σ' s' (hdr.trans e) hj y' (hE.trans hE'))⟩

theorem flt_gv {b : Base} {A : Around} {g : Gf} {K : Sg → Prop} {d : Nat} {pv : Addr} {Dm : Addr → Prop} {p : Addr → Bool} (PD : Pd b g K d pv Dm p) (R : Rm A.in1 d) {fo it l : Addr} {xs : List Addr} (hx : ∀ a ∈ xs, Dm a) (hl : ∀ σ, K σ → σ.at_ l = some (.lst (xs.map .ref))) :
    ∀ n i, ((xs.drop i).filter p).length = n → i ≤ xs.length → Gv b A (.ref fo) K (((xs.drop i).filter p).map .ref) [(fo, .cl (.obj (fltObj pv it))), (it, .cl (itObj l i))] := by
  have key : ∀ i, i ≤ xs.length → ∀ F L σ (D : Sg → Prop) (I : Value → Fs → Sg → Prop), K σ → ((xs.drop i).filter p = [] → ∀ σ', ESt σ σ' → D σ') →
      (∀ j v σ', (xs.drop i).filter p = v :: (xs.drop j).filter p → j ≤ xs.length → ESt σ σ' → I (.ref v) [(fo, .cl (.obj (fltObj pv it))), (it, .cl (itObj l j))] σ') →
      Next b A F L (.ref fo) [(fo, .cl (.obj (fltObj pv it))), (it, .cl (itObj l i))] σ D I := by
    intro i hi F L σ D I hK hD hI s E y
    have hT : s.TypeIs (.ref fo) "filter" := ⟨_, y.fr (fo, .cl (.obj (fltObj pv it))) (.head _), rfl⟩
    unfold pyNext
    refine wpAny_bind (wpAny_attempt (wpAny_callSpecial?_slot (name := Str.ofString "__next__") hT flt_slot_next (wpAny_call (codeAny_call_builtin flt_slot_next.plain flt_entry_next
      (flt_slot_next.check _ _ _ _ _ _ _ _ hT (flt_args_next _) (flt_loop PD R hx hl (xs.length - i) i (by omega) F L σ s (wants _ _) hK y ?_ ?_))))))
    · intro e a s' σ' y' hE ⟨o, h1, h2⟩
      refine wpAny_bind (wpAny_isInstance (T := "StopIteration") (b := true) ⟨o, h1, h2⟩ isSubtype_stop ?_)
      exact wpAny_pure ⟨σ', y', hD e σ' hE⟩
    · intro j v σ' s' e hj y' hE
      exact wpAny_pure ⟨_, σ', y', hI j v σ' e hj hE⟩
  intro n
  induction n with
  | zero =>
    intro i hn hi
    have e : (xs.drop i).filter p = [] := List.length_eq_zero_iff.mp hn
    rw [e]
    intro F L σ D I hK hD
    exact key i hi F L σ D I hK (fun _ => hD) fun j v σ' e' => by rw [e] at e'; cases e'
  | succ n ih =>
    intro i hn hi
    cases e : (xs.drop i).filter p with
    | nil => rw [e] at hn; cases hn
    | cons v r =>
      intro F L σ D I hK hI
      refine key i hi F L σ D I hK (fun e' => by rw [e] at e'; cases e') fun j v' σ' e' hj hE => ?_
      rw [e] at e' hn
      cases e'
      exact hI _ σ' hE (ih j (by simpa using hn) hj)
end PartC22

section PartC23
open PySem PySem.W PyProof.Rows PySem.Calls
set_option maxRecDepth 100000
set_option maxHeartbeats 400000
set_option linter.unusedVariables false

section
variable {b : Base} {A : Around} {F : Fs} {L : Addr} {σ : Sg} {env : Env} {α β : Type}
theorem V.of {t : Sem α} {Q : α → Fs → Sg → Prop} (h : W b A F L t σ fun a σ' => Q a [] σ') : V b A F L t σ Q := fun s E x => wpAny_mono (h s E x) (fun a s' ⟨σ', y, q⟩ => ⟨[], σ', y, q⟩) fun _ _ e => e
theorem VC.mono {c : Code} {Q Q' : Value → Fs → Sg → Prop} (h : VC b A F L c σ Q) (k : ∀ v Fi σ', Q v Fi σ' → Q' v Fi σ') : VC b A F L c σ Q' := fun s R x hR => h s R x fun v s' Fi σ' y q => hR v s' Fi σ' y (k v Fi σ' q)
/-- a call of a function whose frame goes, and what its value needs stays out of sight -/
theorem vc_fn1 {f : Addr} {args : Args} {fd : FuncData} {body : List Stmt} {binds : List (Str × Value)} {Q : Value → Fs → Sg → Prop}
    (G : Glb b) (ho : (Kb b).lookup f = some { cls := .type "function", data := .func fd }) (hcd : codeIn (Kb b) fd.code fd.qualname = true) (hbody : fd.body = .stmts body) (hd : A.depth < recursionLimit) (hb : bindArgs fd args = pure binds)
    (h : ∀ L', CellK fd.scope.names fd.closure (σ.setM fun _ => none) fun cs σ₁ => BindK (fnEnv fd L' cs f) binds σ₁ fun σ₂ =>
      V b (A.deeper (fnEnv fd L' cs f)) ((L, .ns σ.m) :: F) L' (execs body (fnEnv fd L' cs f)) σ₂ fun fl Fi σ' => Q (retOf fl) Fi (σ'.setM σ.m))
    (hco : fd.scope.isCoroutine = false := by with_unfolding_all rfl) (hgen : fd.scope.isGenerator = false := by with_unfolding_all rfl) (hk : fd.scope.kind = .function := by with_unfolding_all rfl) : VC b A F L (.call (.ref f) args) σ Q := by
  intro s R x hR
  refine codeAny_call_function hd (x.keep _ _ (G.k _ _ ho)) rfl hco hgen hbody ((codeRec_of G.k hcd).keeps x.keep) ?_
  rw [hb]
  refine wpAny_pure ?_
  refine newEnv_any x hk fun L' => ?_
  refine CellK.mono (fun cs τ hτ => BindK.mono (fun τ₂ h₂ => ?_) _ _ hτ) _ _ _ (h L')
  intro s₂ x₂
  refine ⟨(G.lim.keeps x₂.keep), codeAny_func (wpAny_mono (h₂ s₂ _ x₂) (fun fl s' ⟨Fi, σ', y, q⟩ => ?_) fun _ _ e => e)⟩
  exact hR _ _ _ _ ((y.perm (List.perm_append_comm_assoc Fi [(L, Kp.ns σ.m)] F)).leave) q
theorem v_consRet {e pos rest} {Q : Flow → Fs → Sg → Prop} (h : V b A F L (eval e env) σ fun v => Q (.ret v)) : V b A F L (execs (.Return (some e) pos :: rest) env) σ Q := fun s E x =>
  wpAny_execs_cons (wpAny_Return_some (h s E x))
theorem v_cwT {pos : Pos} {T : String} {first : List Value} {args : List Expr} {Q : Value → Fs → Sg → Prop}
    (h : W b A F L (spliced (backTo pos (starEach args env))) σ fun vs σ₁ => V b A F L (call (.type T) (first ++ vs)) σ₁ Q) (hp : (backTo pos (starEach args env)).any (·.1) = false := by with_unfolding_all rfl) :
    V b A F L (callWith pos (.type T) first (backTo pos (starEach args env)) []) σ Q := fun s E x => by
  refine PySem.callWith_type hp ?_
  have z : wpAny (model P b.w) A (spliced (backTo pos (starEach args env))) (fun vs s₁ => wpAny (model P b.w) A (call (.type T) (first ++ vs)) (fun a s' => ∃ Fi σ', St b (Fi ++ F) L σ' s' ∧ Q a Fi σ') E s₁) E s :=
    wpAny_mono (h s E x) (fun vs s' ⟨_, y, q⟩ => q s' E y) fun _ _ e => e
  generalize hq : backTo pos (starEach args env) = l at z hp
  cases l with
  | nil =>
    refine evalArgs_nil3 ?_
    have z' : wpAny (model P b.w) A (pure []) (fun vs s₁ => wpAny (model P b.w) A (call (.type T) (first ++ vs)) (fun a s' => ∃ Fi σ', St b (Fi ++ F) L σ' s' ∧ Q a Fi σ') E s₁) E s := z
    exact fun Γ p hΓ => z' Γ p hΓ Γ p hΓ
  | cons p r =>
    obtain ⟨st, t⟩ := p
    rw [List.any_cons, Bool.or_eq_false_iff] at hp
    have e : st = false := hp.1
    subst e
    exact evalArgs_plain z
theorem v_callT {id : Str} {n : String} {p pos : Pos} {args : List Expr} {Q : Value → Fs → Sg → Prop} (G : Glb b) (hv : bootBuiltins id = some (.type n)) (e : nsIn (Kb b) mainGlobals id = some none)
    (h : W b A F L (spliced (backTo pos (starEach args env))) σ fun vs σ₁ => V b A F L (call (.type n) vs) σ₁ Q) (hp : (backTo pos (starEach args env)).any (·.1) = false := by with_unfolding_all rfl)
    (hn : id ≠ ("__name__" : Str) := by decide) (hg : env.globals = mainGlobals := by with_unfolding_all rfl)
    (hb : env.builtins = builtinsNs := by with_unfolding_all rfl) (hk : env.scope.kind = .function := by with_unfolding_all rfl)
    (hx : env.kindOf id = some .globalImplicit := by with_unfolding_all rfl) (hd : (id == ("__debug__" : Str)) = false := by decide) : V b A F L (eval (.Call (.Name id p) args [] pos) env) σ Q := fun s E x =>
  wpAny_Call_Name_kw (wpAny_mono (w_bui (Q := fun v σ' => v = .type n ∧ σ' = σ) G e hv ⟨rfl, rfl⟩ hn hg hb hk hx hd s E x) (fun f s' ⟨σ', y, e1, e2⟩ => by
    subst e1; subst e2
    exact v_cwT (first := []) h hp s' E y) fun _ _ e => e)
theorem V.iterS {t : Sem Value} {Q : Value → Fs → Sg → Prop} (h : V b A F L t σ fun xv Fi σ₁ => Self b A xv Fi ∧ Q xv Fi σ₁) : EvIter b A F L t σ Q := fun s E x =>
  wpAny_mono (h s E x) (fun xv s₁ ⟨Fi, σ₁, y, hs, q⟩ => hs _ _ _ _ _ _ y ⟨Fi, σ₁, y, q⟩) fun _ _ e => e
end

local macro_rules | `(tactic| k_clsL) => `(tactic| first
  | with_reducible assumption
  | (with_reducible show Sg.m (Sg.setL _ _ _) _ = some _; first | with_reducible exact getL_same | (apply getL_skip; with_unfolding_all decide; k_clsL))
  | (with_reducible show Sg.m (Sg.put _ _ _) _ = some _; apply putM; k_clsL)
  | (with_reducible show Sg.m (Sg.del _ _) _ = some _; apply delM; k_clsL)
  | (with_reducible show Sg.m (Sg.setM _ _) _ = some _; apply setMM; k_clsL)
  | (apply viaM; with_reducible assumption; k_clsL)
  | (apply viaE; with_reducible assumption; k_clsL))
local macro_rules | `(tactic| k_offL) => `(tactic| first
  | with_reducible assumption
  | with_reducible exact Ext.rfl
  | (with_reducible show Ext _ (Sg.setL _ _ _); refine Ext.setL ?_; k_offL)
  | (with_reducible show Ext _ (Sg.put _ _ _); refine Ext.put ?_ (by first | with_reducible assumption | with_reducible exact setA (by with_reducible assumption)); k_offL)
  | (with_reducible show Ext _ (Sg.setM _ _); refine Ext.setM ?_; k_offL)
  | (with_reducible refine Ext.tr (by with_reducible assumption) ?_; k_offL)
  | (with_reducible refine Ext.tr2 (by with_reducible assumption) ?_; k_offL))
local macro_rules | `(tactic| k_places) => `(tactic| first
  | with_reducible assumption
  | with_reducible exact putA_same
  | (with_reducible show Sg.at_ (Sg.setL _ _ _) _ = some _; apply setA; k_places)
  | (with_reducible show Sg.at_ (Sg.setM _ _) _ = some _; apply setMA; k_places)
  | (with_reducible show Sg.at_ (Sg.put _ _ _) _ = some _; apply putA_new; with_reducible assumption; k_places)
  | (apply ESt.at_; with_reducible assumption; k_places)
  | (apply Ext.at'; with_reducible assumption; k_places))
local macro_rules | `(tactic| k_subL) => `(tactic| first
  | (with_reducible show W _ _ _ _ (spliced (backTo _ (starEach [] _))) _ _; refine w_items0 ?_)
  | (with_reducible show W _ _ _ _ (spliced (backTo _ (starEach (_ :: _) _))) _ _; refine w_items ?_)
  | (with_reducible show W _ _ _ _ (eval (Expr.Name _ _) _) _ _; first | refine w_local (by with_unfolding_all rfl) (by k_clsL) ?_ | refine w_cell (by with_unfolding_all rfl) (by k_places) ?_ | (with_reducible show W _ _ _ _ (eval (Expr.Name ("Tree" : Str) _) _) _ _; refine w_glob (v := .ref 142) (by assumption) (by kernel_rfl) ?_) | (with_reducible show W _ _ _ _ (eval (Expr.Name ("Token" : Str) _) _) _ _; refine w_glob (v := .ref 45) (by assumption) (by kernel_rfl) ?_))
  | (with_reducible show W _ _ _ _ (eval (Expr.Call (Expr.Name ("isinstance" : Str) _) _ [] _) _) _ _; refine w_callB (n := "isinstance") (by assumption) boot_isi (by kernel_rfl) ?_)
  | (with_reducible show W _ _ _ _ (eval (Expr.Call (Expr.Name ("len" : Str) _) _ [] _) _) _ _; refine w_callB (n := "len") (by assumption) boot_len (by kernel_rfl) ?_)
  | (with_reducible show W _ _ _ _ (eval (Expr.Call (Expr.Name ("min" : Str) _) _ [] _) _) _ _; refine w_callB (n := "min") (by assumption) boot_min (by kernel_rfl) ?_)
  | (with_reducible show W _ _ _ _ (eval (Expr.Call (Expr.Name ("range" : Str) _) _ [] _) _) _ _; refine w_callT (n := "range") (by assumption) boot_range (by kernel_rfl) ?_)
  | (with_reducible show W _ _ _ _ (eval (Expr.Call (Expr.Name ("str" : Str) _) _ [] _) _) _ _; refine w_callT (n := "str") (by assumption) boot_str (by kernel_rfl) ?_)
  | (with_reducible show W _ _ _ _ (eval (Expr.Call (Expr.Name ("list" : Str) _) _ [] _) _) _ _; refine w_callT (n := "list") (by assumption) boot_list (by kernel_rfl) ?_)
  | (with_reducible show W _ _ _ _ (eval (Expr.Call (Expr.Name ("reversed" : Str) _) _ [] _) _) _ _; refine w_callT (n := "reversed") (by assumption) boot_rev (by kernel_rfl) ?_)
  | (with_reducible show W _ _ _ _ (eval (Expr.Call (Expr.Name ("filter" : Str) _) _ [] _) _) _ _; refine w_callT (n := "filter") (by assumption) boot_filter (by kernel_rfl) ?_)
  | (with_reducible show W _ _ _ _ (call (.builtin "len") [.ref _]) _ _; (refine w_len (by k_places) ?_ fun _ => ?_); rotate_left)
  | (with_reducible show W _ _ _ _ (binaryOp .Add (.int _ _) (.int _ _)) _ _; refine w_addI fun _ => ?_)
  | (with_reducible show W _ _ _ _ (binaryOp .Sub (.int _ _) (.int _ _)) _ _; refine w_subI fun _ => ?_)
  | (with_reducible show W _ _ _ _ (compareOp .Eq (.int _ _) (.int _ _)) _ _; refine w_eqI ?_)
  | (with_reducible show W _ _ _ _ (compareOp .NotEq (.int _ _) (.int _ _)) _ _; refine w_neI ?_)
  | (with_reducible show W _ _ _ _ (compareOp .Lt (.int _ _) (.int _ _)) _ _; refine w_ltI ?_)
  | (with_reducible show W _ _ _ _ (compareOp .Eq (.str _ _) (.str _ _)) _ _; refine w_eqS ?_)
  | (with_reducible show W _ _ _ _ (compareOp .NotEq (.bool _) (.bool _)) _ _; refine w_neB ?_)
  | (with_reducible show W _ _ _ _ (unaryOp .USub (.int _ _)) _ _; refine w_negI fun _ => ?_)
  | (with_reducible show W _ _ _ _ (unaryOp .Not _) _ _; refine w_notv ?_)
  | (with_reducible show W _ _ _ _ (eval (Expr.Attribute _ _ _) _) _ _; refine w_attr ?_)
  | (with_reducible show W _ _ _ _ (eval (Expr.List _ _) _) _ _; refine w_list ?_)
  | (with_reducible show W _ _ _ _ (eval (Expr.Tuple _ _ _) _) _ _; refine w_tuple ?_)
  | (with_reducible show W _ _ _ _ (eval (Expr.BinOp _ _ _ _) _) _ _; refine w_binop ?_)
  | (with_reducible show W _ _ _ _ (eval (Expr.Compare _ [_] [_] _) _) _ _; refine w_cmp ?_)
  | (with_reducible show W _ _ _ _ (eval (Expr.IfExp _ _ _ _) _) _ _; refine w_ifexp ?_)
  | (with_reducible show W _ _ _ _ (eval (Expr.Subscript _ _ _) _) _ _; refine w_sub ?_)
  | (with_reducible show W _ _ _ _ (eval (Expr.UnaryOp _ _ _) _) _ _; refine w_unop ?_)
  | (with_reducible show W _ _ _ _ (eval (Expr.Constant .none _ _) _) _ _; refine w_none ?_)
  | (with_reducible show W _ _ _ _ (eval (Expr.Constant (.bool _) _ _) _) _ _; refine w_tf ?_)
  | (with_reducible show W _ _ _ _ (eval (Expr.Constant (.int _) _ _) _) _ _; refine w_int ?_; intro _)
  | (with_reducible show W _ _ _ _ (eval (Expr.Constant (.str _) _ _) _) _ _; refine w_str ?_; intro _)
  | (with_reducible show W _ _ _ _ (execs [] _) _ _; refine w_nil ?_)
  | (with_reducible show W _ _ _ _ (execs (Stmt.Assign [Expr.Name _ _] (Expr.ListComp _ [Comprehension.mk _ _ _ _] _ _) _ :: _) _) _ _; refine w_cons (w_assignComp ?_))
  | (with_reducible show W _ _ _ _ (execs (Stmt.Assign [Expr.Name _ _] _ _ :: _) _) _ _; refine w_consA ?_)
  | (with_reducible show W _ _ _ _ (execs (Stmt.Assign [Expr.Attribute _ _ _] _ _ :: _) _) _ _; refine w_consAttr ?_)
  | (with_reducible show W _ _ _ _ (execs (Stmt.Assign [Expr.Subscript _ _ _] _ _ :: _) _) _ _; refine w_consSub ?_)
  | (with_reducible show W _ _ _ _ (execs (Stmt.If _ _ [] _ :: _) _) _ _; refine w_consIf ?_)
  | (with_reducible show W _ _ _ _ (execs (Stmt.If _ _ _ _ :: _) _) _ _; refine w_consElse ?_)
  | (with_reducible show W _ _ _ _ (execs (Stmt.Return (some _) _ :: _) _) _ _; refine w_consRet ?_)
  | (with_reducible show W _ _ _ _ (execs (Stmt.Break _ :: _) _) _ _; refine w_consBrk ?_)
  | (with_reducible show W _ _ _ _ (execs (Stmt.Continue _ :: _) _) _ _; refine w_consCont ?_)
  | (with_reducible show W _ _ _ _ (execs (Stmt.Expr (Expr.Call (Expr.Attribute _ _ _) [_] [] _) _ :: _) _) _ _; refine w_consApp ?_)
  | (with_reducible show W _ _ _ _ (execs (Stmt.Expr _ _ :: _) _) _ _; refine w_consE ?_)
  | (with_reducible show W _ _ _ _ (isTrue (Expr.UnaryOp .Not _ _) _ _) _ _; refine w_not ?_)
  | (with_reducible show W _ _ _ _ (isTrue (Expr.BoolOp _ _ _) _ _) _ _; refine w_bool ?_)
  | (with_reducible show W _ _ _ _ (allTrue .And [] _) _ _; refine w_andNil ?_)
  | (with_reducible show W _ _ _ _ (allTrue .Or [] _) _ _; refine w_orNil ?_)
  | (with_reducible show W _ _ _ _ (allTrue .And (_ :: _) _) _ _; refine w_and ?_)
  | (with_reducible show W _ _ _ _ (allTrue .Or (_ :: _) _) _ _; refine w_or ?_)
  | (with_reducible show W _ _ _ _ (isTrue (Expr.Compare _ [_] [_] _) _ _) _ _; refine w_tcmp ?_)
  | (with_reducible show W _ _ _ _ (isTrue _ _ _) _ _; refine w_tval ?_)
  | (with_reducible show W _ _ _ _ (storeName _ _ _) _ _; first | refine w_storeL (by with_unfolding_all rfl) ?_ | refine w_storeC (by with_unfolding_all rfl) (by k_places) ?_)
  | (with_reducible show W _ _ _ _ (tests [_] _) _ _; refine w_tests1 ?_)
  | (with_reducible show W _ _ _ _ (tests [] _) _ _; refine w_tests0 ?_)
  | (with_reducible show W _ _ _ _ (eval (Expr.ListComp _ [Comprehension.mk _ _ _ _] _ _) _) _ _; refine w_listcomp ?_)
  | (with_reducible show W _ _ _ _ (truthy (.bool _)) _ _; refine w_truthyB ?_)
  | (with_reducible show thenK _ _ Flow.next _; refine thenK_next ?_)
  | (with_reducible show thenK _ _ Flow.brk _; refine thenK_brk ?_)
  | (with_reducible show thenK _ _ Flow.cont _; refine thenK_cont ?_)
  | (with_reducible show thenK _ _ (Flow.ret _) _; refine thenK_ret ?_)
  | (with_reducible show turnK _ _ _ Flow.next _; refine turnK_next ?_)
  | (with_reducible show turnK _ _ _ Flow.brk _; refine turnK_brk ?_)
  | (with_reducible show turnK _ _ _ Flow.cont _; refine turnK_cont ?_)
  | (with_reducible show turnK _ _ _ (Flow.ret _) _; refine turnK_ret ?_))

theorem c_pred {b : Base} (G : Glb b) {g : Gf} {N : Nat} (Fg : Fing g N) {A : Around} {F : Fs} {L : Addr} {σ : Sg} {n : Nat} {a f : Addr} (R : Rm A (n + 2)) (hG : Gr σ g) (hT : isTree g a = true) (hz : (gdown g N a).length ≤ 2 ^ 18) :
    VC b A F L (.call (.ref 97) ⟨[.ref a, .ref f], []⟩) σ fun v Fi σ' => ∃ fo it l, v = .ref fo ∧ Fi = [(fo, .cl (.obj (fltObj f it))), (it, .cl (itObj l 0))] ∧ σ.at_ l = none ∧
      σ'.at_ l = some (.lst ((bfs g ((gdown g N a).length + 1) [a] []).reverse.map .ref)) ∧ ESt σ σ' := by
  refine vc_fn1 (fd := fPred.1) (binds := [("self", Value.ref a), ("pred", Value.ref f)]) G (fPred.2 _) (by kernel_rfl) rfl R.dep rfl fun L' => ?_
  show V _ _ _ _ _ _ _
  obtain ⟨da, la, nm, ks, hga⟩ := node_of hT
  refine v_consRet (v_callT G boot_filter (by kernel_rfl) ?_)
  repeat k_subL
  refine w_callM ?_
  repeat k_subL
  refine w_meth (f := 83) G ((hG a _ hga).ext ?_) (by kernel_rfl) (by kernel_rfl) ⟨by decide, by decide, by decide⟩ ?_
  · k_offL
  refine w_cwK G (by kernel_rfl) ?_
  repeat k_subL
  refine WC.call (WC.mono (c_iter G Fg R.deeper (hG.ext ?_) hT hz) fun v σ' ⟨r, hv, hr, hr2, hE⟩ => ?_)
  · k_offL
  subst hv
  repeat k_subL
  refine v_filter hr2 fun fo it => ?_
  exact ⟨fo, it, r, rfl, rfl, hr, hr2, (show Ext σ σ' by k_offL).setM, rfl⟩
end PartC23

section PartC24
open PySem PySem.W PyProof.Rows PySem.Calls
set_option maxRecDepth 100000
set_option maxHeartbeats 400000
set_option linter.unusedVariables false

local macro_rules | `(tactic| k_clsL) => `(tactic| first
  | with_reducible assumption
  | (with_reducible show Sg.m (Sg.setL _ _ _) _ = some _; first | with_reducible exact getL_same | (apply getL_skip; with_unfolding_all decide; k_clsL))
  | (with_reducible show Sg.m (Sg.put _ _ _) _ = some _; apply putM; k_clsL)
  | (with_reducible show Sg.m (Sg.del _ _) _ = some _; apply delM; k_clsL)
  | (with_reducible show Sg.m (Sg.setM _ _) _ = some _; apply setMM; k_clsL)
  | (apply viaM; with_reducible assumption; k_clsL)
  | (apply viaE; with_reducible assumption; k_clsL))
local macro_rules | `(tactic| k_offL) => `(tactic| first
  | with_reducible assumption
  | with_reducible exact Ext.rfl
  | (with_reducible show Ext _ (Sg.setL _ _ _); refine Ext.setL ?_; k_offL)
  | (with_reducible show Ext _ (Sg.put _ _ _); refine Ext.put ?_ (by first | with_reducible assumption | with_reducible exact setA (by with_reducible assumption)); k_offL)
  | (with_reducible show Ext _ (Sg.setM _ _); refine Ext.setM ?_; k_offL)
  | (with_reducible refine Ext.tr (by with_reducible assumption) ?_; k_offL)
  | (with_reducible refine Ext.tr2 (by with_reducible assumption) ?_; k_offL))
local macro_rules | `(tactic| k_places) => `(tactic| first
  | with_reducible assumption
  | with_reducible exact putA_same
  | (with_reducible show Sg.at_ (Sg.setL _ _ _) _ = some _; apply setA; k_places)
  | (with_reducible show Sg.at_ (Sg.setM _ _) _ = some _; apply setMA; k_places)
  | (with_reducible show Sg.at_ (Sg.put _ _ _) _ = some _; apply putA_new; with_reducible assumption; k_places)
  | (apply ESt.at_; with_reducible assumption; k_places)
  | (apply Ext.at'; with_reducible assumption; k_places))
local macro_rules | `(tactic| k_subL) => `(tactic| first
  | (with_reducible show W _ _ _ _ (spliced (backTo _ (starEach [] _))) _ _; refine w_items0 ?_)
  | (with_reducible show W _ _ _ _ (spliced (backTo _ (starEach (_ :: _) _))) _ _; refine w_items ?_)
  | (with_reducible show W _ _ _ _ (eval (Expr.Name _ _) _) _ _; first | refine w_local (by with_unfolding_all rfl) (by k_clsL) ?_ | refine w_cell (by with_unfolding_all rfl) (by k_places) ?_ | (with_reducible show W _ _ _ _ (eval (Expr.Name ("Tree" : Str) _) _) _ _; refine w_glob (v := .ref 142) (by assumption) (by kernel_rfl) ?_) | (with_reducible show W _ _ _ _ (eval (Expr.Name ("Token" : Str) _) _) _ _; refine w_glob (v := .ref 45) (by assumption) (by kernel_rfl) ?_))
  | (with_reducible show W _ _ _ _ (eval (Expr.Call (Expr.Name ("isinstance" : Str) _) _ [] _) _) _ _; refine w_callB (n := "isinstance") (by assumption) boot_isi (by kernel_rfl) ?_)
  | (with_reducible show W _ _ _ _ (eval (Expr.Call (Expr.Name ("len" : Str) _) _ [] _) _) _ _; refine w_callB (n := "len") (by assumption) boot_len (by kernel_rfl) ?_)
  | (with_reducible show W _ _ _ _ (eval (Expr.Call (Expr.Name ("min" : Str) _) _ [] _) _) _ _; refine w_callB (n := "min") (by assumption) boot_min (by kernel_rfl) ?_)
  | (with_reducible show W _ _ _ _ (eval (Expr.Call (Expr.Name ("range" : Str) _) _ [] _) _) _ _; refine w_callT (n := "range") (by assumption) boot_range (by kernel_rfl) ?_)
  | (with_reducible show W _ _ _ _ (eval (Expr.Call (Expr.Name ("str" : Str) _) _ [] _) _) _ _; refine w_callT (n := "str") (by assumption) boot_str (by kernel_rfl) ?_)
  | (with_reducible show W _ _ _ _ (eval (Expr.Call (Expr.Name ("list" : Str) _) _ [] _) _) _ _; refine w_callT (n := "list") (by assumption) boot_list (by kernel_rfl) ?_)
  | (with_reducible show W _ _ _ _ (eval (Expr.Call (Expr.Name ("reversed" : Str) _) _ [] _) _) _ _; refine w_callT (n := "reversed") (by assumption) boot_rev (by kernel_rfl) ?_)
  | (with_reducible show W _ _ _ _ (eval (Expr.Call (Expr.Name ("filter" : Str) _) _ [] _) _) _ _; refine w_callT (n := "filter") (by assumption) boot_filter (by kernel_rfl) ?_)
  | (with_reducible show W _ _ _ _ (call (.builtin "len") [.ref _]) _ _; (refine w_len (by k_places) ?_ fun _ => ?_); rotate_left)
  | (with_reducible show W _ _ _ _ (binaryOp .Add (.int _ _) (.int _ _)) _ _; refine w_addI fun _ => ?_)
  | (with_reducible show W _ _ _ _ (binaryOp .Sub (.int _ _) (.int _ _)) _ _; refine w_subI fun _ => ?_)
  | (with_reducible show W _ _ _ _ (compareOp .Eq (.int _ _) (.int _ _)) _ _; refine w_eqI ?_)
  | (with_reducible show W _ _ _ _ (compareOp .NotEq (.int _ _) (.int _ _)) _ _; refine w_neI ?_)
  | (with_reducible show W _ _ _ _ (compareOp .Lt (.int _ _) (.int _ _)) _ _; refine w_ltI ?_)
  | (with_reducible show W _ _ _ _ (compareOp .Eq (.str _ _) (.str _ _)) _ _; refine w_eqS ?_)
  | (with_reducible show W _ _ _ _ (compareOp .NotEq (.bool _) (.bool _)) _ _; refine w_neB ?_)
  | (with_reducible show W _ _ _ _ (unaryOp .USub (.int _ _)) _ _; refine w_negI fun _ => ?_)
  | (with_reducible show W _ _ _ _ (unaryOp .Not _) _ _; refine w_notv ?_)
  | (with_reducible show W _ _ _ _ (eval (Expr.Attribute _ _ _) _) _ _; refine w_attr ?_)
  | (with_reducible show W _ _ _ _ (eval (Expr.List _ _) _) _ _; refine w_list ?_)
  | (with_reducible show W _ _ _ _ (eval (Expr.Tuple _ _ _) _) _ _; refine w_tuple ?_)
  | (with_reducible show W _ _ _ _ (eval (Expr.BinOp _ _ _ _) _) _ _; refine w_binop ?_)
  | (with_reducible show W _ _ _ _ (eval (Expr.Compare _ [_] [_] _) _) _ _; refine w_cmp ?_)
  | (with_reducible show W _ _ _ _ (eval (Expr.IfExp _ _ _ _) _) _ _; refine w_ifexp ?_)
  | (with_reducible show W _ _ _ _ (eval (Expr.Subscript _ _ _) _) _ _; refine w_sub ?_)
  | (with_reducible show W _ _ _ _ (eval (Expr.UnaryOp _ _ _) _) _ _; refine w_unop ?_)
  | (with_reducible show W _ _ _ _ (eval (Expr.Constant .none _ _) _) _ _; refine w_none ?_)
  | (with_reducible show W _ _ _ _ (eval (Expr.Constant (.bool _) _ _) _) _ _; refine w_tf ?_)
  | (with_reducible show W _ _ _ _ (eval (Expr.Constant (.int _) _ _) _) _ _; refine w_int ?_; intro _)
  | (with_reducible show W _ _ _ _ (eval (Expr.Constant (.str _) _ _) _) _ _; refine w_str ?_; intro _)
  | (with_reducible show W _ _ _ _ (execs [] _) _ _; refine w_nil ?_)
  | (with_reducible show W _ _ _ _ (execs (Stmt.Assign [Expr.Name _ _] (Expr.ListComp _ [Comprehension.mk _ _ _ _] _ _) _ :: _) _) _ _; refine w_cons (w_assignComp ?_))
  | (with_reducible show W _ _ _ _ (execs (Stmt.Assign [Expr.Name _ _] _ _ :: _) _) _ _; refine w_consA ?_)
  | (with_reducible show W _ _ _ _ (execs (Stmt.Assign [Expr.Attribute _ _ _] _ _ :: _) _) _ _; refine w_consAttr ?_)
  | (with_reducible show W _ _ _ _ (execs (Stmt.Assign [Expr.Subscript _ _ _] _ _ :: _) _) _ _; refine w_consSub ?_)
  | (with_reducible show W _ _ _ _ (execs (Stmt.If _ _ [] _ :: _) _) _ _; refine w_consIf ?_)
  | (with_reducible show W _ _ _ _ (execs (Stmt.If _ _ _ _ :: _) _) _ _; refine w_consElse ?_)
  | (with_reducible show W _ _ _ _ (execs (Stmt.Return (some _) _ :: _) _) _ _; refine w_consRet ?_)
  | (with_reducible show W _ _ _ _ (execs (Stmt.Break _ :: _) _) _ _; refine w_consBrk ?_)
  | (with_reducible show W _ _ _ _ (execs (Stmt.Continue _ :: _) _) _ _; refine w_consCont ?_)
  | (with_reducible show W _ _ _ _ (execs (Stmt.Expr (Expr.Call (Expr.Attribute _ _ _) [_] [] _) _ :: _) _) _ _; refine w_consApp ?_)
  | (with_reducible show W _ _ _ _ (execs (Stmt.Expr _ _ :: _) _) _ _; refine w_consE ?_)
  | (with_reducible show W _ _ _ _ (isTrue (Expr.UnaryOp .Not _ _) _ _) _ _; refine w_not ?_)
  | (with_reducible show W _ _ _ _ (isTrue (Expr.BoolOp _ _ _) _ _) _ _; refine w_bool ?_)
  | (with_reducible show W _ _ _ _ (allTrue .And [] _) _ _; refine w_andNil ?_)
  | (with_reducible show W _ _ _ _ (allTrue .Or [] _) _ _; refine w_orNil ?_)
  | (with_reducible show W _ _ _ _ (allTrue .And (_ :: _) _) _ _; refine w_and ?_)
  | (with_reducible show W _ _ _ _ (allTrue .Or (_ :: _) _) _ _; refine w_or ?_)
  | (with_reducible show W _ _ _ _ (isTrue (Expr.Compare _ [_] [_] _) _ _) _ _; refine w_tcmp ?_)
  | (with_reducible show W _ _ _ _ (isTrue _ _ _) _ _; refine w_tval ?_)
  | (with_reducible show W _ _ _ _ (storeName _ _ _) _ _; first | refine w_storeL (by with_unfolding_all rfl) ?_ | refine w_storeC (by with_unfolding_all rfl) (by k_places) ?_)
  | (with_reducible show W _ _ _ _ (tests [_] _) _ _; refine w_tests1 ?_)
  | (with_reducible show W _ _ _ _ (tests [] _) _ _; refine w_tests0 ?_)
  | (with_reducible show W _ _ _ _ (eval (Expr.ListComp _ [Comprehension.mk _ _ _ _] _ _) _) _ _; refine w_listcomp ?_)
  | (with_reducible show W _ _ _ _ (truthy (.bool _)) _ _; refine w_truthyB ?_)
  | (with_reducible show thenK _ _ Flow.next _; refine thenK_next ?_)
  | (with_reducible show thenK _ _ Flow.brk _; refine thenK_brk ?_)
  | (with_reducible show thenK _ _ Flow.cont _; refine thenK_cont ?_)
  | (with_reducible show thenK _ _ (Flow.ret _) _; refine thenK_ret ?_)
  | (with_reducible show turnK _ _ _ Flow.next _; refine turnK_next ?_)
  | (with_reducible show turnK _ _ _ Flow.brk _; refine turnK_brk ?_)
  | (with_reducible show turnK _ _ _ Flow.cont _; refine turnK_cont ?_)
  | (with_reducible show turnK _ _ _ (Flow.ret _) _; refine turnK_ret ?_))

/-- what a call that hands back an iterator leaves -/
def Hands (b : Base) (d : Nat) (rem : List Value) (v : Value) (Fi : Fs) (σ' : Sg) : Prop :=
  ∃ K, (∀ A', Rm A'.in1 d → Gv b A' v K rem Fi) ∧ (∀ A', Self b A' v Fi) ∧ (∀ τ, Ext σ' τ → K τ)

section
variable {b : Base} {A : Around} {F : Fs} {L : Addr} {σ : Sg} {env : Env}
theorem Hands.m {d : Nat} {rem : List Value} {v : Value} {Fi : Fs} {σ' : Sg} {m : NsMap} (h : Hands b d rem v Fi σ') : Hands b d rem v Fi (σ'.setM m) := by
  obtain ⟨K, h1, h2, h3⟩ := h
  exact ⟨K, h1, h2, fun τ e => h3 τ e.ml⟩
theorem vc_top (G : Glb b) {g : Gf} {N : Nat} (Fg : Fing g N) {a d : Nat} (hG : Gr σ g) (hT : isTree g a = true) (hz : gall g N a ≤ 2 ^ 20) (hd : A.depth < recursionLimit) :
    VC b A F L (.call (.ref 90) ⟨[.ref a], []⟩) σ fun v Fi σ' => Hands b (d + 1) ((gdown g N a).map .ref) v Fi σ' ∧ ESt σ σ' := by
  refine vc_gen (fd := fTop.1) (binds := [("self", Value.ref a)]) G (fTop.2 _) (by kernel_rfl) rfl hd rfl fun L' => ?_
  show ∀ a gi, _
  intro a2 gi2
  exact ⟨⟨fun τ => Gr τ g, fun A' R => Gv.gi G R (top_gi G Fg hT hz rfl getL_same), fun A' => Self.gen, fun τ e => hG.ext ((show Ext σ _ by k_offL).trans e)⟩, (show Ext σ _ by k_offL), rfl⟩
theorem vc_scan (G : Glb b) {g : Gf} {K : Sg → Prop} {d a n : Nat} {pv : Addr} {Dm : Addr → Prop} {p : Addr → Bool} (PD : Pd b g K d pv Dm p) (hDm : ∀ t nd, g t = some nd → isTree g t = false → Dm t) (hK : K σ) (hT : isTree g a = true) (hD : Dp g n a) (hd : A.depth < recursionLimit) :
    VC b A F L (.call (.ref 125) ⟨[.ref a, .ref pv], []⟩) σ fun v Fi σ' => Hands b (d + 2 * n + 2) (((gtoks g n a).filter p).map .ref) v Fi σ' ∧ ESt σ σ' := by
  refine vc_gen (fd := fScan.1) (binds := [("self", Value.ref a), ("pred", Value.ref pv)]) G (fScan.2 _) (by kernel_rfl) rfl hd rfl fun L' => ?_
  show ∀ a gi, _
  intro a2 gi2
  exact ⟨⟨K, fun A' R => Gv.gi G R (scan_gi G PD hDm rfl n a hT hD _ _ _ _ _ _ (getL_skip (by decide) getL_same) getL_same), fun A' => Self.gen, fun τ e => PD.mono _ _ ((show Ext σ _ by k_offL).trans e) hK⟩, (show Ext σ _ by k_offL), rfl⟩

/-- a lambda as a predicate -/
theorem pd_lam (G : Glb b) {g : Gf} {Dm : Addr → Prop} {d : Nat} {p : Addr → Bool} {f c' : Addr} {oc : Obj} {vs : Array Value} {t : Tok} {fd : FuncData} {body : Expr} {x : Str} (X : Sg → Prop) (hX : ∀ σ τ, Ext σ τ → X σ → X τ) (hd : oc.data = .fields vs)
    (hv : vs[1]? = some (.str fd.qualname t)) (hcd : fd.code = .ref c') (hbody : fd.body = .expr body) (hbind : ∀ v, bindArgs fd ⟨[v], []⟩ = pure [(x, v)])
    (hcell : ∀ y ∈ fd.scope.names, y.2 ≠ .cell) (hloc : ∀ L', (fnEnv fd L' fd.closure f).kindOf x = some .local)
    (h : ∀ A F L' σ t, Rm A d → Gr σ g → X σ → Dm t → σ.m x = some (.ref t) → W b A F L' (eval body (fnEnv fd L' fd.closure f)) σ fun v σ' => v = .bool (p t) ∧ ESt σ σ')
    (hco : fd.scope.isCoroutine = false) (hgen : fd.scope.isGenerator = false) (hk : fd.scope.kind = .function) :
    Pd b g (fun σ => Gr σ g ∧ X σ ∧ σ.at_ f = some (.obj { cls := .type "function", data := .func fd }) ∧ σ.at_ c' = some (.obj oc)) (d + 1) f Dm p where
  mono := fun σ τ e h => ⟨h.1.ext e, hX _ _ e h.2.1, e.at_ _ _ h.2.2.1, e.at_ _ _ h.2.2.2⟩
  gr := fun σ h => h.1
  at_ := fun σ h => ⟨fd, h.2.2.1⟩
  call := fun A F L σ a R hK hDm => by
    refine wc_lam G hK.2.2.1 hK.2.2.2 hcd hd hv hbody R.dep (hbind _) (fun L' => cellK_none _ _ _ hcell ?_) hco hgen hk
    unfold BindK
    rw [hloc]
    refine W.mono (h _ _ L' ((σ.setM fun _ => none).setL x (.ref a)) a R.deeper (hK.1.ext (Ext.setL (Ext.setM Ext.rfl))) (hX _ _ (Ext.setL (Ext.setM Ext.rfl)) hK.2.1) hDm getL_same) fun v σ' ⟨e, hE⟩ => ⟨e, ?_⟩
    exact ⟨((Ext.setL (Ext.setM (Ext.rfl (σ := σ)))).trans hE.1).setM, rfl⟩
end
/-- the tree a has the name x -/
def named1 (g : Gf) (x : Str) (a : Addr) : Bool := match g a with
  | some (.node d l nm ks) => nm == x
  | _ => false
theorem ndAt_del {σ : Sg} {P a : Addr} {ps : Array Value} {nd : Nd} (h : NdAt σ a nd) (hP : σ.at_ P = some (.obj (tabObj ps))) : NdAt (σ.del P) a nd := by
  have k : ∀ y c, σ.at_ y = some c → c ≠ .obj (tabObj ps) → (σ.del P).at_ y = some c := fun y c e hn => by
    have : y ≠ P := fun q => by rw [q, hP] at e; cases e; exact hn rfl
    simp only [Sg.del, if_neg this]; exact e
  cases nd with
  | node d l nm ks =>
    obtain ⟨⟨t, h1, h2⟩, h3⟩ := h
    exact ⟨⟨t, k _ _ h1 (by intro q; cases q), k _ _ h2 (by intro q; cases q)⟩, k _ _ h3 (by intro q; cases q)⟩
  | tok d kd v =>
    obtain ⟨t, u, h1, h2⟩ := h
    exact ⟨t, u, k _ _ h1 (by intro q; cases q), k _ _ h2 (by intro q; cases q)⟩
theorem gr_del {σ : Sg} {g : Gf} {P : Addr} {ps : Array Value} (h : Gr σ g) (hP : σ.at_ P = some (.obj (tabObj ps))) : Gr (σ.del P) g := fun a nd e => ndAt_del (h a nd e) hP
/-- a put at P, unseen without P -/
theorem ext_delPut {σ τ : Sg} {P : Addr} {c : Cl} (h : Ext σ τ) : Ext (σ.del P) (τ.put P c) := ⟨fun y cc e => by
  simp only [Sg.del] at e
  split at e
  · cases e
  · rename_i q; simp only [Sg.put, if_neg q]; exact h.at_ _ _ e, h.gens⟩
/-- a table stands -/
def TabAt (P : Addr) (τ : Sg) : Prop := ∃ ps, τ.at_ P = some (.obj (tabObj ps))
theorem TabAt.ext {P : Addr} {σ τ : Sg} (h : TabAt P σ) (e : Ext σ τ) : TabAt P τ := h.imp fun _ h => e.at_ _ _ h
theorem TabAt.m {P : Addr} {σ : Sg} {m : NsMap} (h : TabAt P σ) : TabAt P (σ.setM m) := h
theorem w_lam3 {b : Base} {A : Around} {F : Fs} {L : Addr} {σ : Sg} {env : Env} {params : Arguments} {body : Expr} {scope : Scope} {pos : Pos} {c P : Addr} {ps : Array Value} {clos : List (Str × Addr)} {Q : Value → Sg → Prop} (GT : GlbT b) (hP : σ.at_ P = some (.obj (tabObj ps))) (C : CodeHd b.h c P) (hcode : env.code = .ref c)
    (hcl : closureFor scope env = pure clos) (hge : env.globals = mainGlobals) (ht : TriplesOk ps.toList) (hnf : codeAmong pos ps.toList = none) (hdef : defaultsOf params env = ([], []))
    (h : ∀ f c' oc vs t pm ctv τ, Ext (σ.del P) τ → τ.m = σ.m → σ.at_ f = none → oc.data = .fields vs → vs[1]? = some (.str (env.qual ++ "<lambda>") t) → τ.at_ c' = some (.obj oc) →
      τ.at_ f = some (.obj (kla_obj "<lambda>" (env.qual ++ "<lambda>") params body scope clos pm c' ctv)) → TabAt P τ → Q (.ref f) τ) :
    W b A F L (eval (.Lambda params body scope pos) env) σ Q := by
  refine w_lambda GT hP C hcode hcl hge ht hnf hdef fun f c' oc vs t pm ctv hf hc' hne hd hv => ?_
  have n1 : ∀ y, σ.at_ y = none → y ≠ P := fun y e q => by rw [q, hP] at e; cases e
  refine h f c' oc vs t pm ctv _ ((Ext.put (ext_delPut Ext.rfl) ?_).put ?_) rfl hf hd hv (putA_ne (Ne.symm hne) putA_same) putA_same ⟨_, putA_ne (Ne.symm (n1 _ hf)) (putA_ne (Ne.symm (n1 _ hc')) putA_same)⟩
  · exact putA_ne (n1 _ hc') hc'
  · exact putA_ne hne (putA_ne (n1 _ hf) hf)
theorem del_keep {σ : Sg} {P y : Addr} {ps : Array Value} {c : Cl} (hP : σ.at_ P = some (.obj (tabObj ps))) (h : σ.at_ y = some c) (hn : c ≠ .obj (tabObj ps)) : (σ.del P).at_ y = some c := by
  have : y ≠ P := fun q => by rw [q, hP] at h; cases h; exact hn rfl
  simp only [Sg.del, if_neg this]; exact h
theorem ext_del {σ τ : Sg} {P : Addr} (h : Ext σ τ) : Ext (σ.del P) (τ.del P) := ⟨fun y cc e => by
  simp only [Sg.del] at e ⊢
  split at e
  · cases e
  · rename_i q; rw [if_neg q]; exact h.at_ _ _ e, h.gens⟩
theorem c_data {b : Base} (GT : GlbT b) {g : Gf} {N : Nat} (Fg : Fing g N) {A : Around} {F : Fs} {L : Addr} {σ : Sg} {n : Nat} {a : Addr} {x : Str} {t : Tok} (R : Rm A (n + 3)) (hG : Gr σ g) (hT : isTree g a = true) (hz : (gdown g N a).length ≤ 2 ^ 18) (hP : σ.at_ 99 = some (.obj (tabObj #[])))
    (hbt : ∀ y ∈ bfs g ((gdown g N a).length + 1) [a] [], isTree g y = true) :
    VC b A F L (.call (.ref 104) ⟨[.ref a, .str x t], []⟩) σ fun v Fi σ' => Hands b 1 ((((bfs g ((gdown g N a).length + 1) [a] []).reverse).filter (named1 g x)).map .ref) v Fi σ' ∧ Ext (σ.del 99) σ' ∧ σ'.m = σ.m ∧ TabAt 99 σ' := by
  refine vc_fn1 (fd := fData.1) (binds := [("self", Value.ref a), ("data", .str x t)]) GT.toGlb (fData.2 _) (by kernel_rfl) rfl R.dep rfl fun L' => ?_
  have G := GT.toGlb
  intro cd hcd
  refine ⟨⟨none, putA_same⟩, ?_⟩
  show V _ _ _ _ _ _ _
  obtain ⟨da, la, nm, ks, hga⟩ := node_of hT
  have hcd' : σ.at_ cd = none := hcd
  have hE0 : Ext σ ((((σ.setM fun x => none).put cd (Cl.cel none)).setL (Str.ofString "self") (Value.ref a)).put cd (Cl.cel (some (Value.str x t)))) := Ext.putN (by k_offL) hcd'
  have hk0 : ((((σ.setM fun x => none).put cd (Cl.cel none)).setL (Str.ofString "self") (Value.ref a)).put cd (Cl.cel (some (Value.str x t)))).at_ cd = some (.cel (some (.str x t))) := putA_same
  have hm0 : ((((σ.setM fun x => none).put cd (Cl.cel none)).setL (Str.ofString "self") (Value.ref a)).put cd (Cl.cel (some (Value.str x t)))).m "self" = some (.ref a) := by k_clsL
  generalize ((((σ.setM fun x => none).put cd (Cl.cel none)).setL (Str.ofString "self") (Value.ref a)).put cd (Cl.cel (some (Value.str x t)))) = τ0 at hE0 hk0 hm0
  refine v_consRet (v_callM ?_)
  repeat k_subL
  refine w_meth (f := 97) G ((hG a _ hga).ext hE0) (by kernel_rfl) (by kernel_rfl) ⟨by decide, by decide, by decide⟩ ?_
  refine v_cwK G (by kernel_rfl) ?_
  repeat k_subL
  have h99 := hE0.at_ _ _ hP
  refine w_lam3 GT h99 GT.tab1 (by with_unfolding_all rfl) (clos := [("data", cd)]) (by with_unfolding_all rfl) (by with_unfolding_all rfl) trivial (by with_unfolding_all rfl) (by with_unfolding_all rfl) ?_
  intro f c' oc vs t' pm ctv τ1 hE1 hm1 hf hd hv hc1 hf1 hTb
  repeat k_subL
  have hE2 : Ext (σ.del 99) τ1 := (ext_del hE0).trans hE1
  have hG1 : Gr τ1 g := (gr_del hG hP).ext hE2
  have hk1 := hE1.at_ _ _ (del_keep h99 hk0 (by intro q; cases q))
  refine VC.call (VC.mono (c_pred G Fg R.deeper hG1 hT hz) fun v Fi σ' ⟨fo, it, l, hv2, hFi, hl0, hl, hE3⟩ => ?_)
  subst hv2; subst hFi
  refine ⟨Hands.m ?_, (hE2.trans hE3.1).setM, rfl, (hTb.ext hE3.1).m⟩
  obtain ⟨K, PD, hK, hKl⟩ : ∃ K, Pd b g K 1 f (fun y => isTree g y = true) (named1 g x) ∧ K σ' ∧ ∀ τ, K τ → τ.at_ l = some (.lst ((bfs g ((gdown g N a).length + 1) [a] []).reverse.map .ref)) := by
    refine ⟨_, pd_lam G (x := "t") (fun τ => τ.at_ cd = some (.cel (some (.str x t))) ∧ τ.at_ l = some (.lst ((bfs g ((gdown g N a).length + 1) [a] []).reverse.map .ref))) ?_ hd hv rfl rfl ?_ ?_ ?_ ?_ ?_ ?_ ?_, ⟨hG1.ext hE3.1, ⟨hE3.1.at_ _ _ hk1, hl⟩, hE3.1.at_ _ _ hf1, hE3.1.at_ _ _ hc1⟩, fun τ h => h.2.1.2⟩
    · exact fun σ τ e h => ⟨e.at_ _ _ h.1, e.at_ _ _ h.2⟩
    · exact fun _ => rfl
    · dsimp only; decide
    · intro L'; with_unfolding_all rfl
    · intro A F L' σ t1 R hG hX hDm hm
      obtain ⟨dt, lt, nt, kt, hgt⟩ := node_of hDm
      repeat k_subL
      refine w_data G (hG t1 _ hgt) fun tk => ?_
      refine w_free (c := cd) (by with_unfolding_all rfl) hX.1 ?_
      repeat k_subL
      refine ⟨?_, ESt.rfl⟩
      unfold named1; rw [hgt]
    · with_unfolding_all rfl
    · with_unfolding_all rfl
    · with_unfolding_all rfl
  exact ⟨K, fun A' R' => flt_gv PD R' (fun y hy => hbt y (List.mem_reverse.mp hy)) hKl _ 0 rfl (Nat.zero_le _), fun A' => Self.flt, fun τ e => PD.mono _ _ e hK⟩
end PartC24

section PartC25
open PySem PySem.W PyProof.Rows PySem.Calls
set_option maxRecDepth 100000
set_option maxHeartbeats 400000
set_option linter.unusedVariables false

local macro_rules | `(tactic| k_clsL) => `(tactic| first
  | with_reducible assumption
  | (with_reducible show Sg.m (Sg.setL _ _ _) _ = some _; first | with_reducible exact getL_same | (apply getL_skip; with_unfolding_all decide; k_clsL))
  | (with_reducible show Sg.m (Sg.put _ _ _) _ = some _; apply putM; k_clsL)
  | (with_reducible show Sg.m (Sg.del _ _) _ = some _; apply delM; k_clsL)
  | (with_reducible show Sg.m (Sg.setM _ _) _ = some _; apply setMM; k_clsL)
  | (apply viaM; with_reducible assumption; k_clsL)
  | (apply viaE; with_reducible assumption; k_clsL))
local macro_rules | `(tactic| k_offL) => `(tactic| first
  | with_reducible assumption
  | with_reducible exact Ext.rfl
  | (with_reducible show Ext _ (Sg.setL _ _ _); refine Ext.setL ?_; k_offL)
  | (with_reducible show Ext _ (Sg.put _ _ _); refine Ext.put ?_ (by first | with_reducible assumption | with_reducible exact setA (by with_reducible assumption)); k_offL)
  | (with_reducible show Ext _ (Sg.setM _ _); refine Ext.setM ?_; k_offL)
  | (with_reducible refine Ext.tr (by with_reducible assumption) ?_; k_offL)
  | (with_reducible refine Ext.tr2 (by with_reducible assumption) ?_; k_offL))
local macro_rules | `(tactic| k_places) => `(tactic| first
  | with_reducible assumption
  | with_reducible exact putA_same
  | (with_reducible show Sg.at_ (Sg.setL _ _ _) _ = some _; apply setA; k_places)
  | (with_reducible show Sg.at_ (Sg.setM _ _) _ = some _; apply setMA; k_places)
  | (with_reducible show Sg.at_ (Sg.put _ _ _) _ = some _; apply putA_new; with_reducible assumption; k_places)
  | (apply ESt.at_; with_reducible assumption; k_places)
  | (apply Ext.at'; with_reducible assumption; k_places))
local macro_rules | `(tactic| k_subL) => `(tactic| first
  | (with_reducible show W _ _ _ _ (spliced (backTo _ (starEach [] _))) _ _; refine w_items0 ?_)
  | (with_reducible show W _ _ _ _ (spliced (backTo _ (starEach (_ :: _) _))) _ _; refine w_items ?_)
  | (with_reducible show W _ _ _ _ (eval (Expr.Name _ _) _) _ _; first | refine w_local (by with_unfolding_all rfl) (by k_clsL) ?_ | refine w_cell (by with_unfolding_all rfl) (by k_places) ?_ | (with_reducible show W _ _ _ _ (eval (Expr.Name ("Tree" : Str) _) _) _ _; refine w_glob (v := .ref 142) (by assumption) (by kernel_rfl) ?_) | (with_reducible show W _ _ _ _ (eval (Expr.Name ("Token" : Str) _) _) _ _; refine w_glob (v := .ref 45) (by assumption) (by kernel_rfl) ?_))
  | (with_reducible show W _ _ _ _ (eval (Expr.Call (Expr.Name ("isinstance" : Str) _) _ [] _) _) _ _; refine w_callB (n := "isinstance") (by assumption) boot_isi (by kernel_rfl) ?_)
  | (with_reducible show W _ _ _ _ (eval (Expr.Call (Expr.Name ("len" : Str) _) _ [] _) _) _ _; refine w_callB (n := "len") (by assumption) boot_len (by kernel_rfl) ?_)
  | (with_reducible show W _ _ _ _ (eval (Expr.Call (Expr.Name ("min" : Str) _) _ [] _) _) _ _; refine w_callB (n := "min") (by assumption) boot_min (by kernel_rfl) ?_)
  | (with_reducible show W _ _ _ _ (eval (Expr.Call (Expr.Name ("range" : Str) _) _ [] _) _) _ _; refine w_callT (n := "range") (by assumption) boot_range (by kernel_rfl) ?_)
  | (with_reducible show W _ _ _ _ (eval (Expr.Call (Expr.Name ("str" : Str) _) _ [] _) _) _ _; refine w_callT (n := "str") (by assumption) boot_str (by kernel_rfl) ?_)
  | (with_reducible show W _ _ _ _ (eval (Expr.Call (Expr.Name ("list" : Str) _) _ [] _) _) _ _; refine w_callT (n := "list") (by assumption) boot_list (by kernel_rfl) ?_)
  | (with_reducible show W _ _ _ _ (eval (Expr.Call (Expr.Name ("reversed" : Str) _) _ [] _) _) _ _; refine w_callT (n := "reversed") (by assumption) boot_rev (by kernel_rfl) ?_)
  | (with_reducible show W _ _ _ _ (eval (Expr.Call (Expr.Name ("filter" : Str) _) _ [] _) _) _ _; refine w_callT (n := "filter") (by assumption) boot_filter (by kernel_rfl) ?_)
  | (with_reducible show W _ _ _ _ (call (.builtin "len") [.ref _]) _ _; (refine w_len (by k_places) ?_ fun _ => ?_); rotate_left)
  | (with_reducible show W _ _ _ _ (binaryOp .Add (.int _ _) (.int _ _)) _ _; refine w_addI fun _ => ?_)
  | (with_reducible show W _ _ _ _ (binaryOp .Sub (.int _ _) (.int _ _)) _ _; refine w_subI fun _ => ?_)
  | (with_reducible show W _ _ _ _ (compareOp .Eq (.int _ _) (.int _ _)) _ _; refine w_eqI ?_)
  | (with_reducible show W _ _ _ _ (compareOp .NotEq (.int _ _) (.int _ _)) _ _; refine w_neI ?_)
  | (with_reducible show W _ _ _ _ (compareOp .Lt (.int _ _) (.int _ _)) _ _; refine w_ltI ?_)
  | (with_reducible show W _ _ _ _ (compareOp .Eq (.str _ _) (.str _ _)) _ _; refine w_eqS ?_)
  | (with_reducible show W _ _ _ _ (compareOp .NotEq (.bool _) (.bool _)) _ _; refine w_neB ?_)
  | (with_reducible show W _ _ _ _ (unaryOp .USub (.int _ _)) _ _; refine w_negI fun _ => ?_)
  | (with_reducible show W _ _ _ _ (unaryOp .Not _) _ _; refine w_notv ?_)
  | (with_reducible show W _ _ _ _ (eval (Expr.Attribute _ _ _) _) _ _; refine w_attr ?_)
  | (with_reducible show W _ _ _ _ (eval (Expr.List _ _) _) _ _; refine w_list ?_)
  | (with_reducible show W _ _ _ _ (eval (Expr.Tuple _ _ _) _) _ _; refine w_tuple ?_)
  | (with_reducible show W _ _ _ _ (eval (Expr.BinOp _ _ _ _) _) _ _; refine w_binop ?_)
  | (with_reducible show W _ _ _ _ (eval (Expr.Compare _ [_] [_] _) _) _ _; refine w_cmp ?_)
  | (with_reducible show W _ _ _ _ (eval (Expr.IfExp _ _ _ _) _) _ _; refine w_ifexp ?_)
  | (with_reducible show W _ _ _ _ (eval (Expr.Subscript _ _ _) _) _ _; refine w_sub ?_)
  | (with_reducible show W _ _ _ _ (eval (Expr.UnaryOp _ _ _) _) _ _; refine w_unop ?_)
  | (with_reducible show W _ _ _ _ (eval (Expr.Constant .none _ _) _) _ _; refine w_none ?_)
  | (with_reducible show W _ _ _ _ (eval (Expr.Constant (.bool _) _ _) _) _ _; refine w_tf ?_)
  | (with_reducible show W _ _ _ _ (eval (Expr.Constant (.int _) _ _) _) _ _; refine w_int ?_; intro _)
  | (with_reducible show W _ _ _ _ (eval (Expr.Constant (.str _) _ _) _) _ _; refine w_str ?_; intro _)
  | (with_reducible show W _ _ _ _ (execs [] _) _ _; refine w_nil ?_)
  | (with_reducible show W _ _ _ _ (execs (Stmt.Assign [Expr.Name _ _] (Expr.ListComp _ [Comprehension.mk _ _ _ _] _ _) _ :: _) _) _ _; refine w_cons (w_assignComp ?_))
  | (with_reducible show W _ _ _ _ (execs (Stmt.Assign [Expr.Name _ _] _ _ :: _) _) _ _; refine w_consA ?_)
  | (with_reducible show W _ _ _ _ (execs (Stmt.Assign [Expr.Attribute _ _ _] _ _ :: _) _) _ _; refine w_consAttr ?_)
  | (with_reducible show W _ _ _ _ (execs (Stmt.Assign [Expr.Subscript _ _ _] _ _ :: _) _) _ _; refine w_consSub ?_)
  | (with_reducible show W _ _ _ _ (execs (Stmt.If _ _ [] _ :: _) _) _ _; refine w_consIf ?_)
  | (with_reducible show W _ _ _ _ (execs (Stmt.If _ _ _ _ :: _) _) _ _; refine w_consElse ?_)
  | (with_reducible show W _ _ _ _ (execs (Stmt.Return (some _) _ :: _) _) _ _; refine w_consRet ?_)
  | (with_reducible show W _ _ _ _ (execs (Stmt.Break _ :: _) _) _ _; refine w_consBrk ?_)
  | (with_reducible show W _ _ _ _ (execs (Stmt.Continue _ :: _) _) _ _; refine w_consCont ?_)
  | (with_reducible show W _ _ _ _ (execs (Stmt.Expr (Expr.Call (Expr.Attribute _ _ _) [_] [] _) _ :: _) _) _ _; refine w_consApp ?_)
  | (with_reducible show W _ _ _ _ (execs (Stmt.Expr _ _ :: _) _) _ _; refine w_consE ?_)
  | (with_reducible show W _ _ _ _ (isTrue (Expr.UnaryOp .Not _ _) _ _) _ _; refine w_not ?_)
  | (with_reducible show W _ _ _ _ (isTrue (Expr.BoolOp _ _ _) _ _) _ _; refine w_bool ?_)
  | (with_reducible show W _ _ _ _ (allTrue .And [] _) _ _; refine w_andNil ?_)
  | (with_reducible show W _ _ _ _ (allTrue .Or [] _) _ _; refine w_orNil ?_)
  | (with_reducible show W _ _ _ _ (allTrue .And (_ :: _) _) _ _; refine w_and ?_)
  | (with_reducible show W _ _ _ _ (allTrue .Or (_ :: _) _) _ _; refine w_or ?_)
  | (with_reducible show W _ _ _ _ (isTrue (Expr.Compare _ [_] [_] _) _ _) _ _; refine w_tcmp ?_)
  | (with_reducible show W _ _ _ _ (isTrue _ _ _) _ _; refine w_tval ?_)
  | (with_reducible show W _ _ _ _ (storeName _ _ _) _ _; first | refine w_storeL (by with_unfolding_all rfl) ?_ | refine w_storeC (by with_unfolding_all rfl) (by k_places) ?_)
  | (with_reducible show W _ _ _ _ (tests [_] _) _ _; refine w_tests1 ?_)
  | (with_reducible show W _ _ _ _ (tests [] _) _ _; refine w_tests0 ?_)
  | (with_reducible show W _ _ _ _ (eval (Expr.ListComp _ [Comprehension.mk _ _ _ _] _ _) _) _ _; refine w_listcomp ?_)
  | (with_reducible show W _ _ _ _ (truthy (.bool _)) _ _; refine w_truthyB ?_)
  | (with_reducible show thenK _ _ Flow.next _; refine thenK_next ?_)
  | (with_reducible show thenK _ _ Flow.brk _; refine thenK_brk ?_)
  | (with_reducible show thenK _ _ Flow.cont _; refine thenK_cont ?_)
  | (with_reducible show thenK _ _ (Flow.ret _) _; refine thenK_ret ?_)
  | (with_reducible show turnK _ _ _ Flow.next _; refine turnK_next ?_)
  | (with_reducible show turnK _ _ _ Flow.brk _; refine turnK_brk ?_)
  | (with_reducible show turnK _ _ _ Flow.cont _; refine turnK_cont ?_)
  | (with_reducible show turnK _ _ _ (Flow.ret _) _; refine turnK_ret ?_))

/-- the token a has the kind x -/
def kind1 (g : Gf) (x : Str) (a : Addr) : Bool := match g a with
  | some (.tok d k v) => k == x
  | _ => false
theorem c_token {b : Base} (GT : GlbT b) {g : Gf} {N : Nat} {A : Around} {F : Fs} {L : Addr} {σ : Sg} {n : Nat} {a : Addr} {x : Str} {t : Tok} (R : Rm A (n + 3)) (hG : Gr σ g) (hT : isTree g a = true) (hD : Dp g N a) (hP : σ.at_ 106 = some (.obj (tabObj #[]))) :
    VC b A F L (.call (.ref 111) ⟨[.ref a, .str x t], []⟩) σ fun v Fi σ' => Hands b (1 + 2 * N + 2) (((gtoks g N a).filter (kind1 g x)).map .ref) v Fi σ' ∧ Ext (σ.del 106) σ' ∧ σ'.m = σ.m ∧ TabAt 106 σ' := by
  refine vc_fn1 (fd := fToken.1) (binds := [("self", Value.ref a), ("token_type", .str x t)]) GT.toGlb (fToken.2 _) (by kernel_rfl) rfl R.dep rfl fun L' => ?_
  have G := GT.toGlb
  intro cd hcd
  refine ⟨⟨none, putA_same⟩, ?_⟩
  show V _ _ _ _ _ _ _
  obtain ⟨da, la, nm, ks, hga⟩ := node_of hT
  have hcd' : σ.at_ cd = none := hcd
  have hE0 : Ext σ ((((σ.setM fun x => none).put cd (Cl.cel none)).setL (Str.ofString "self") (Value.ref a)).put cd (Cl.cel (some (Value.str x t)))) := Ext.putN (by k_offL) hcd'
  have hk0 : ((((σ.setM fun x => none).put cd (Cl.cel none)).setL (Str.ofString "self") (Value.ref a)).put cd (Cl.cel (some (Value.str x t)))).at_ cd = some (.cel (some (.str x t))) := putA_same
  have hm0 : ((((σ.setM fun x => none).put cd (Cl.cel none)).setL (Str.ofString "self") (Value.ref a)).put cd (Cl.cel (some (Value.str x t)))).m "self" = some (.ref a) := by k_clsL
  generalize ((((σ.setM fun x => none).put cd (Cl.cel none)).setL (Str.ofString "self") (Value.ref a)).put cd (Cl.cel (some (Value.str x t)))) = τ0 at hE0 hk0 hm0
  refine v_consRet (v_callM ?_)
  repeat k_subL
  refine w_meth (f := 125) G ((hG a _ hga).ext hE0) (by kernel_rfl) (by kernel_rfl) ⟨by decide, by decide, by decide⟩ ?_
  refine v_cwK G (by kernel_rfl) ?_
  repeat k_subL
  have h99 := hE0.at_ _ _ hP
  refine w_lam3 GT h99 GT.tab2 (by with_unfolding_all rfl) (clos := [("token_type", cd)]) (by with_unfolding_all rfl) (by with_unfolding_all rfl) trivial (by with_unfolding_all rfl) (by with_unfolding_all rfl) ?_
  intro f c' oc vs t' pm ctv τ1 hE1 hm1 hf hd hv hc1 hf1 hTb
  repeat k_subL
  have hE2 : Ext (σ.del 106) τ1 := (ext_del hE0).trans hE1
  have hG1 : Gr τ1 g := (gr_del hG hP).ext hE2
  have hk1 := hE1.at_ _ _ (del_keep h99 hk0 (by intro q; cases q))
  obtain ⟨K, PD, hK⟩ : ∃ K, Pd b g K 1 f (fun y => ∃ nd, g y = some nd) (kind1 g x) ∧ K τ1 := by
    refine ⟨_, pd_lam G (x := "v") (fun τ => τ.at_ cd = some (.cel (some (.str x t)))) ?_ hd hv rfl rfl ?_ ?_ ?_ ?_ ?_ ?_ ?_, ⟨hG1, hk1, hf1, hc1⟩⟩
    · exact fun σ τ e h => e.at_ _ _ h
    · exact fun _ => rfl
    · dsimp only; decide
    · intro L'; with_unfolding_all rfl
    · intro A F L' σ t1 R hG hX hDm hm
      obtain ⟨nd, hnd⟩ := hDm
      refine w_and2 ?_
      repeat k_subL
      refine w_isTok (nd := nd) G (hG t1 _ hnd) ?_
      repeat k_subL
      refine ⟨fun hb => w_and1 ?_, fun hb => ⟨?_, ESt.rfl⟩⟩
      · cases nd with
        | node => cases hb
        | tok dd kk vv =>
          repeat k_subL
          refine w_type G (hG t1 _ hnd) fun tk => ?_
          refine w_free (c := cd) (by with_unfolding_all rfl) hX ?_
          repeat k_subL
          refine ⟨?_, ESt.rfl⟩
          unfold kind1; rw [hnd]
      · cases nd with
        | tok => cases hb
        | node => unfold kind1; rw [hnd]; rfl
    · with_unfolding_all rfl
    · with_unfolding_all rfl
    · with_unfolding_all rfl
  refine VC.call (VC.mono (vc_scan G PD (fun t nd h _ => ⟨nd, h⟩) hK hT hD R.deeper.dep) fun v Fi σ' ⟨hH, hE3⟩ => ?_)
  exact ⟨Hands.m hH, (hE2.trans hE3.1).setM, rfl, (hTb.ext hE3.1).m⟩
end PartC25

section PartC26
open PySem PySem.W PyProof.Rows PySem.Calls
set_option maxRecDepth 100000
set_option maxHeartbeats 400000
set_option linter.unusedVariables false

theorem allT (n : Nat) : ((List.range n).all fun _ => true) = true := List.all_eq_true.mpr fun _ _ => rfl
section
variable {b : Base} {A : Around} {F : Fs} {L : Addr} {σ : Sg} {env : Env}
/-- an expression as a statement, its value dropped -/
theorem w_consD {e pos rest} {Q : Flow → Sg → Prop} (h : W b A F L (eval e env) σ fun _ σ' => W b A F L (execs rest env) σ' Q)
    (hi : interactive env = false := by with_unfolding_all rfl) (hs : swapsWith e none pos.line env = pure false := by with_unfolding_all rfl) : W b A F L (execs (.Expr e pos :: rest) env) σ Q :=
  w_cons fun s E x => wpAny_Expr_any (wpAny_mono (h s E x) (fun v s' ⟨σ', y, q⟩ => ⟨σ', y, q⟩) fun _ _ e => e) hi hs
/-- list != list -/
theorem w_neLn {l r : Addr} {xs ys : List Value} {Q : Value → Sg → Prop} (hu : A.units < cLine) (hl : σ.at_ l = some (.lst xs)) (hr : σ.at_ r = some (.lst ys)) (hz : xs.length ≠ ys.length) (h : Q (.bool true) σ) : W b A F L (compareOp .NotEq (.ref l) (.ref r)) σ Q := fun s E z =>
  cmp_ofNotEq (SeqAt.RcNeAt.lists_lengths (z.isList hl) (z.isList hr) (by simpa using hz) hu _ _ _ _ ⟨σ, z, h⟩)
theorem w_neLs {l r : Addr} {xs ys : List Value} {e : Nat → Bool} {Q : Value → Sg → Prop} (hu : A.units < cLine) (hl : σ.at_ l = some (.lst xs)) (hr : σ.at_ r = some (.lst ys)) (hz : xs.length = ys.length)
    (he : ∀ s, St b F L σ s → ∀ j x y, xs[j]? = some x → ys[j]? = some y → SeqAt.EqAt A.in1 s x y (e j)) (h : Q (.bool (!(List.range xs.length).all e)) σ) : W b A F L (compareOp .NotEq (.ref l) (.ref r)) σ Q := fun s E z => by
  refine cmp_ofNotEq (SeqAt.RcNeAt.lists (e := e) (z.isList hl) (z.isList hr) (by simpa using hz) hu (fun j h1 h2 => ?_) _ _ _ _ ⟨σ, z, by simpa using h⟩)
  exact he s z j _ _ (by simp at h1; simp [h1]) (by simp at h2; simp [h2])
/-- xs != [] -/
theorem w_ne0 {l r : Addr} {xs : List Value} {Q : Value → Sg → Prop} (hu : A.units < cLine) (hl : σ.at_ l = some (.lst xs)) (hr : σ.at_ r = some (.lst [])) (h : Q (.bool (!xs.isEmpty)) σ) : W b A F L (compareOp .NotEq (.ref l) (.ref r)) σ Q := by
  cases xs with
  | nil => exact w_neLs (e := fun _ => true) hu hl hr rfl (fun s _ j x y hx => by simp at hx) h
  | cons x xs => exact w_neLn hu hl hr (by simp) h
/-- xs == [] -/
theorem w_eq0 {l r : Addr} {xs : List Value} {Q : Value → Sg → Prop} (hu : A.units < cLine) (hl : σ.at_ l = some (.lst xs)) (hr : σ.at_ r = some (.lst [])) (h : ∀ σ', ESt σ σ' → Q (.bool xs.isEmpty) σ') : W b A F L (compareOp .Eq (.ref l) (.ref r)) σ Q := by
  refine w_eqL (e := fun _ => true) hu hl hr (fun hne => ?_) (fun hl2 i x y σ' hx hy => ?_) fun hl2 σ' hE => ?_
  · cases xs with
    | nil => exact absurd rfl hne
    | cons x xs => exact h σ ESt.rfl
  · simp at hy
  · cases xs with
    | nil => exact h σ' hE
    | cons x xs => simp at hl2
/-- lists of words, the same -/
theorem w_neW {l r : Addr} {xs ys : List Value} {ws : List Str} {Q : Value → Sg → Prop} (hu : A.units < cLine) (hl : σ.at_ l = some (.lst xs)) (hr : σ.at_ r = some (.lst ys)) (hx : StrsAre xs ws) (hy : StrsAre ys ws) (h : Q (.bool false) σ) :
    W b A F L (compareOp .NotEq (.ref l) (.ref r)) σ Q := by
  have get : ∀ {zs : List Value} {ws : List Str}, StrsAre zs ws → zs.length = ws.length ∧ ∀ (j : Nat) (z : Value), zs[j]? = some z → ∃ (w : Str) (t : Tok), ws[j]? = some w ∧ z = Value.str w t := by
    intro zs ws hz
    induction hz with
    | nil => exact ⟨rfl, fun j z e => by simp at e⟩
    | cons w t r ih =>
      refine ⟨by simp [ih.1], fun j z e => ?_⟩
      cases j with
      | zero => simp at e; exact ⟨_, _, rfl, e.symm⟩
      | succ j => simp at e; obtain ⟨w', t', h1, h2⟩ := ih.2 j z e; exact ⟨w', t', by simpa using h1, h2⟩
  have gx := get hx
  have gy := get hy
  refine w_neLs (e := fun _ => true) hu hl hr (by rw [gx.1, gy.1]) (fun s _ j x y ex ey => ?_) (by rw [allT]; exact h)
  obtain ⟨w1, t1, h1, rfl⟩ := gx.2 j x ex
  obtain ⟨w2, t2, h2, rfl⟩ := gy.2 j y ey
  rw [h1] at h2; cases h2
  have := SeqAt.EqAt.str_str (A := A.in1) (s := s) w1 t1 w1 t2
  simpa using this
/-- a pair of words -/
def PairW (σ : Sg) (v : Value) (w1 w2 : Str) : Prop := ∃ a t u, v = .ref a ∧ σ.at_ a = some (.obj (tupObj [.str w1 t, .str w2 u]))
theorem PairW.ext {σ τ : Sg} {v : Value} {w1 w2 : Str} (h : PairW σ v w1 w2) (e : Ext σ τ) : PairW τ v w1 w2 := by
  obtain ⟨a, t, u, h1, h2⟩ := h; exact ⟨a, t, u, h1, e.at_ _ _ h2⟩
/-- lists of pairs of words, the same -/
theorem w_neP {l r : Addr} {xs ys : List Value} {Q : Value → Sg → Prop} (hu : A.units + 1 < cLine) (hl : σ.at_ l = some (.lst xs)) (hr : σ.at_ r = some (.lst ys)) (hz : xs.length = ys.length)
    (he : ∀ (j : Nat) (x y : Value), xs[j]? = some x → ys[j]? = some y → ∃ w1 w2, PairW σ x w1 w2 ∧ PairW σ y w1 w2) (h : Q (.bool false) σ) : W b A F L (compareOp .NotEq (.ref l) (.ref r)) σ Q := by
  refine w_neLs (e := fun _ => true) (by omega) hl hr hz (fun s z j x y ex ey => ?_) (by rw [allT]; exact h)
  obtain ⟨w1, w2, ⟨a, t, u, rfl, h1⟩, ⟨a', t', u', rfl, h2⟩⟩ := he j x y ex ey
  by_cases q : a = a'
  · subst q; exact SeqAt.EqAt.same _
  have g1 := z.cl _ _ h1
  have g2 := z.cl _ _ h2
  have T1 : s.heap.IsTuple a #[.str w1 t, .str w2 u] := ⟨_, g1, rfl, 0, rfl⟩
  have T2 : s.heap.IsTuple a' #[.str w1 t', .str w2 u'] := ⟨_, g2, rfl, 0, rfl⟩
  refine SeqAt.EqAt.of_refs q ?_
  have := SeqAt.RcAt.tuples (A := A.in1) (e := fun _ => true) T1 T2 (by simp only [Around.in1_units]; omega) (fun j h1 h2 => ?_)
  · simpa [allT] using this
  · have hj : j = 0 ∨ j = 1 := by simp at h1; omega
    rcases hj with rfl | rfl
    · have := SeqAt.EqAt.str_str (A := A.in1.in1) (s := s) w1 t w1 t'; simpa using this
    · have := SeqAt.EqAt.str_str (A := A.in1.in1) (s := s) w2 u w2 u'; simpa using this
end
end PartC26

section PartM1
open PySem PySem.W PyProof.Rows PySem.Calls
set_option maxRecDepth 100000
set_option maxHeartbeats 400000
set_option linter.unusedVariables false

def kidN (g : Gf) (a : Addr) : Nat := match g a with
  | some (.node d l nm ks) => ks.length
  | _ => 0
def kidsA (g : Gf) (a : Addr) : List Addr := match g a with
  | some (.node d l nm ks) => ks
  | _ => []
/-- a graph as the law builds it: the trees in their order -/
structure Gb (g : Gf) (as : List Addr) : Prop where
  nd : as.Nodup
  ne : 0 < as.length
  tr : ∀ a, isTree g a = true → a ∈ as
  ex : ∀ a ∈ as, isTree g a = true
  kid : ∀ (i : Nat) (a : Addr) d l nm ks, as[i]? = some a → g a = some (.node d l nm ks) → ∀ c ∈ ks, (∃ nd, g c = some nd) ∧ (isTree g c = true → ∃ j : Nat, i < j ∧ as[j]? = some c)
  par : ∀ (j : Nat) (c : Addr), as[j]? = some c → 0 < j → ∃ (i : Nat) (a : Addr), i < j ∧ as[i]? = some a ∧ c ∈ kidsT g a
  n12 : as.length ≤ 12
  e11 : (as.map (kidN g)).sum ≤ 11
  tk : ∀ p c dt kd v, c ∈ kidsA g p → g c = some (.tok dt kd v) → (kd = "X" ∨ kd = "Y") ∧ v ≠ "other"
  nms : ∀ a d l nm ks, g a = some (.node d l nm ks) → nm ≠ "z"
  sep : ∀ a a' d l nm ks d' l' nm' ks', g a = some (.node d l nm ks) → g a' = some (.node d' l' nm' ks') → l = l' ∨ d = d' → a = a'

theorem sum_le_mul {α : Type} {f : α → Nat} {m : Nat} : ∀ l : List α, (∀ x ∈ l, f x ≤ m) → (l.map f).sum ≤ l.length * m
  | [], _ => by simp
  | x :: l, h => by
    have h1 := h x (.head _)
    have h2 := sum_le_mul (m := m) l fun y hy => h y (.tail _ hy)
    simp only [List.map_cons, List.sum_cons, List.length_cons, Nat.succ_mul]; omega
theorem le_sum {α : Type} {f : α → Nat} : ∀ {l : List α} {x : α}, x ∈ l → f x ≤ (l.map f).sum
  | _ :: l, _, .head _ => by simp
  | y :: l, x, .tail _ h => by have := le_sum (f := f) h; simp only [List.map_cons, List.sum_cons]; omega
theorem Dp.mono {g : Gf} : ∀ n a, Dp g n a → Dp g (n + 1) a := by
  intro n
  induction n with
  | zero => intro a ⟨d, k, v, e⟩; unfold Dp; rw [e]; trivial
  | succ n ih =>
    intro a h
    unfold Dp at h ⊢
    cases e : g a with
    | none => rw [e] at h; exact h
    | some nd =>
      rw [e] at h
      cases nd with
      | node d l nm ks => exact fun k hk => ih k (h k hk)
      | tok => trivial
theorem Dp.le {g : Gf} {n m : Nat} {a : Addr} (h : Dp g n a) (hm : n ≤ m) : Dp g m a := by
  induction hm with
  | refl => exact h
  | step _ ih => exact Dp.mono _ _ ih
theorem Dp.tok {g : Gf} {a d : Addr} {k v : Str} (e : g a = .some (.tok d k v)) : ∀ n, Dp g n a
  | 0 => ⟨d, k, v, e⟩
  | n + 1 => by unfold Dp; rw [e]; trivial
theorem gdown_st {g : Gf} : ∀ n a, Dp g n a → gdown g (n + 1) a = gdown g n a := by
  intro n
  induction n with
  | zero => intro a ⟨d, k, v, e⟩; unfold gdown; rw [e]
  | succ n ih =>
    intro a h
    unfold Dp at h
    rw [gdown, gdown]
    cases e : g a with
    | none => rfl
    | some nd =>
      rw [e] at h
      cases nd with
      | tok => rfl
      | node d l nm ks =>
        dsimp only at h ⊢
        congr 1
        have : ∀ ks : List Addr, (∀ k ∈ ks, Dp g n k) → ks.flatMap (gdown g (n + 1)) = ks.flatMap (gdown g n) := fun ks => by
          induction ks with
          | nil => intro _; rfl
          | cons k ks ih2 => intro h; rw [List.flatMap_cons, List.flatMap_cons, ih k (h k (.head _)), ih2 fun q hq => h q (.tail _ hq)]
        exact this ks h
section
variable {g : Gf} {as : List Addr}
theorem Gb.at_ (B : Gb g as) {i : Nat} {a : Addr} (h : as[i]? = some a) : ∃ d l nm ks, g a = some (.node d l nm ks) := node_of (B.ex a (List.mem_of_getElem? h))
theorem Gb.dpi (B : Gb g as) : ∀ k i a, as.length - i ≤ k → as[i]? = some a → Dp g k a := by
  intro k
  induction k with
  | zero => intro i a hk h; have := (List.getElem?_eq_some_iff.mp h).1; omega
  | succ k ih =>
    intro i a hk h
    obtain ⟨d, l, nm, ks, e⟩ := B.at_ h
    unfold Dp; rw [e]
    intro c hc
    obtain ⟨⟨nd, hnd⟩, ht⟩ := B.kid i a d l nm ks h e c hc
    cases nd with
    | tok d' k' v' => exact Dp.tok hnd k
    | node d' l' nm' ks' =>
      obtain ⟨j, hj, hc⟩ := ht (isTree_of hnd)
      exact ih j c (by omega) hc
theorem Gb.dp (B : Gb g as) {N : Nat} (hN : as.length ≤ N) (a : Addr) (nd : Nd) (e : g a = some nd) : Dp g N a := by
  cases nd with
  | tok d k v => exact Dp.tok e N
  | node d l nm ks =>
    obtain ⟨i, hi⟩ := List.mem_iff_getElem?.mp (B.tr a (isTree_of e))
    exact B.dpi N i a (by omega) hi
theorem Gb.fing (B : Gb g as) {N : Nat} (hN : as.length ≤ N) : Fing g N where
  dp := B.dp hN
  kid := fun a d l nm ks e c hc => by
    obtain ⟨i, hi⟩ := List.mem_iff_getElem?.mp (B.tr a (isTree_of e))
    exact (B.kid i a d l nm ks hi e c hc).1
  down := fun a d l nm ks e => by
    obtain ⟨n, rfl, h⟩ := dp_pred (B.dp hN a _ e) e
    rw [gdown, e]
    dsimp only
    congr 1
    have : ∀ ks : List Addr, (∀ k ∈ ks, Dp g n k) → ks.flatMap (gdown g n) = ks.flatMap (gdown g (n + 1)) := fun ks => by
      induction ks with
      | nil => intro _; rfl
      | cons k ks ih2 => intro h; rw [List.flatMap_cons, List.flatMap_cons, gdown_st n k (h k (.head _)), ih2 fun q hq => h q (.tail _ hq)]
    exact this ks h
  len := fun a d l nm ks e => by
    have h1 := le_sum (f := kidN g) (B.tr a (isTree_of e))
    have h2 := B.e11
    have : kidN g a = ks.length := by unfold kidN; rw [e]
    omega
theorem Gb.klen (B : Gb g as) {a d l : Addr} {nm : Str} {ks : List Addr} (e : g a = some (.node d l nm ks)) : ks.length ≤ 11 := by
  have h1 := le_sum (f := kidN g) (B.tr a (isTree_of e))
  have h2 := B.e11
  have : kidN g a = ks.length := by unfold kidN; rw [e]
  omega
/-- no more than two to the number of edges -/
theorem Gb.galli (B : Gb g as) : ∀ k i a n, as.length - i ≤ k → as[i]? = some a → gall g n a ≤ 2 ^ ((as.drop i).map (kidN g)).sum := by
  intro k
  induction k with
  | zero => intro i a n hk h; have := (List.getElem?_eq_some_iff.mp h).1; omega
  | succ k ih =>
    intro i a n hk h
    have hi := (List.getElem?_eq_some_iff.mp h).1
    cases n with
    | zero => unfold gall; exact Nat.one_le_two_pow
    | succ n =>
      obtain ⟨d, l, nm, ks, e⟩ := B.at_ h
      have hd : (as.drop i) = a :: as.drop (i + 1) := by
        rw [List.drop_eq_getElem_cons hi, (List.getElem?_eq_some_iff.mp h).2]
      have hk2 : kidN g a = ks.length := by unfold kidN; rw [e]
      rw [hd, List.map_cons, List.sum_cons, hk2, Nat.pow_add]
      unfold gall; rw [e]
      dsimp only
      generalize hE : ((as.drop (i + 1)).map (kidN g)).sum = E at *
      have hall : ∀ c ∈ ks, gall g n c ≤ 2 ^ E := fun c hc => by
        obtain ⟨⟨nd, hnd⟩, ht⟩ := B.kid i a d l nm ks h e c hc
        cases nd with
        | tok d' k' v' =>
          have : gall g n c = 1 := by cases n with
            | zero => rfl
            | succ n => unfold gall; rw [hnd]
          rw [this]; exact Nat.one_le_two_pow
        | node d' l' nm' ks' =>
          obtain ⟨j, hj, hc⟩ := ht (isTree_of hnd)
          refine Nat.le_trans (ih j c n (by omega) hc) (Nat.pow_le_pow_right (by omega) ?_)
          have : as.drop j = (as.drop (i + 1)).drop (j - (i + 1)) := by rw [List.drop_drop]; congr 1; omega
          rw [this, ← hE]
          generalize as.drop (i + 1) = ls
          generalize j - (i + 1) = m
          conv => rhs; rw [← List.take_append_drop m ls, List.map_append, List.sum_append]
          omega
      have h1 := sum_le_mul ks hall
      have h2 : ks.length < 2 ^ ks.length := Nat.lt_two_pow_self
      have h3 : 1 ≤ 2 ^ E := Nat.one_le_two_pow
      have h4 : (ks.length + 1) * 2 ^ E ≤ 2 ^ ks.length * 2 ^ E := Nat.mul_le_mul_right _ h2
      rw [Nat.add_mul, Nat.one_mul] at h4
      omega
theorem Gb.gall (B : Gb g as) {a : Addr} (h : isTree g a = true) (n : Nat) : Mine.gall g n a ≤ 2 ^ 11 := by
  obtain ⟨i, hi⟩ := List.mem_iff_getElem?.mp (B.tr a h)
  refine Nat.le_trans (B.galli _ i a n (Nat.le_refl _) hi) (Nat.pow_le_pow_right (by omega) ?_)
  have h2 := B.e11
  have : (as.map (kidN g)).sum = ((as.take i).map (kidN g)).sum + ((as.drop i).map (kidN g)).sum := by
    conv => lhs; rw [← List.take_append_drop i as, List.map_append, List.sum_append]
  omega
theorem len_flatMap_le {α β : Type} {f : α → List β} {h : α → Nat} : ∀ l : List α, (∀ x ∈ l, (f x).length ≤ h x) → (l.flatMap f).length ≤ (l.map h).sum
  | [], _ => by simp
  | x :: l, H => by
    have h1 := H x (.head _)
    have h2 := len_flatMap_le l fun y hy => H y (.tail _ hy)
    rw [List.flatMap_cons, List.length_append, List.map_cons, List.sum_cons]; omega
theorem gdown_le (g : Gf) : ∀ n a, (gdown g n a).length ≤ Mine.gall g n a := by
  intro n
  induction n with
  | zero => intro a; unfold gdown; simp
  | succ n ih =>
    intro a
    unfold gdown Mine.gall
    split
    · rename_i ks e
      try simp only [e]
      have := len_flatMap_le (f := gdown g n) (h := Mine.gall g n) ks fun x _ => ih x
      rw [List.length_cons]
      exact Nat.le_trans (Nat.add_le_add_right this 1) (by omega)
    · simp
theorem gtoks_le (g : Gf) : ∀ n a, (gtoks g n a).length ≤ Mine.gall g n a := by
  intro n
  induction n with
  | zero => intro a; unfold gtoks; simp
  | succ n ih =>
    intro a
    unfold gtoks Mine.gall
    split
    · rename_i ks e
      try simp only [e]
      have := len_flatMap_le (f := fun k => if isTree g k = true then gtoks g n k else [k]) (h := Mine.gall g n) ks fun x _ => by
        split
        · exact ih x
        · simpa using gall_pos g n x
      exact Nat.le_trans this (by omega)
    · simp
end
end PartM1

section PartM2
open PySem PySem.W PyProof.Rows PySem.Calls
set_option maxRecDepth 100000
set_option maxHeartbeats 400000
set_option linter.unusedVariables false

/-- what holds in the walk in breadth -/
structure BI (g : Gf) (r : Addr) (q S : List Addr) : Prop where
  nd : S.Nodup
  tq : ∀ x ∈ q, isTree g x = true
  tS : ∀ x ∈ S, isTree g x = true
  cl : ∀ x ∈ S, ∀ c ∈ kidsT g x, c ∈ S ∨ c ∈ q
  oq : ∀ c ∈ q, c = r ∨ ∃ y ∈ S, c ∈ kidsT g y
  oS : ∀ S1 c S2, S = S1 ++ c :: S2 → c = r ∨ ∃ y ∈ S1, c ∈ kidsT g y
theorem kidsT_tree {g : Gf} {x c : Addr} (h : c ∈ kidsT g x) : isTree g c = true := by
  unfold kidsT at h
  split at h
  · exact (List.mem_filter.mp h).2
  · cases h
theorem snoc_split {α : Type} {S S1 S2 : List α} {x c : α} (h : S ++ [x] = S1 ++ c :: S2) : (S2 = [] ∧ S1 = S ∧ c = x) ∨ ∃ S3, S2 = S3 ++ [x] ∧ S = S1 ++ c :: S3 := by
  rcases snoc_or S2 with rfl | ⟨S3, y, rfl⟩
  · have := List.append_inj' h rfl
    simp at this
    exact .inl ⟨rfl, this.1.symm, this.2.symm⟩
  · have h2 : S ++ [x] = (S1 ++ c :: S3) ++ [y] := by rw [h]; simp
    have := List.append_inj' h2 rfl
    simp at this
    exact .inr ⟨S3, by rw [this.2], this.1⟩
theorem BI.step {g : Gf} {r x : Addr} {q S : List Addr} (h : BI g r (x :: q) S) :
    BI g r (q ++ (kidsT g x).reverse.filter (fun c => decide (c ∉ (if x ∈ S then S else S ++ [x])))) (if x ∈ S then S else S ++ [x]) := by
  have hx : x ∈ (if x ∈ S then S else S ++ [x]) := by
    split
    · assumption
    · simp
  have hS : ∀ y ∈ S, y ∈ (if x ∈ S then S else S ++ [x]) := fun y hy => by
    split
    · exact hy
    · simp [hy]
  have hin : ∀ y ∈ (if x ∈ S then S else S ++ [x]), y ∈ S ∨ y = x := fun y hy => by
    split at hy
    · exact .inl hy
    · simpa using hy
  refine ⟨?_, fun y hy => ?_, fun y hy => ?_, fun y hy c hc => ?_, fun c hc => ?_, fun S1 c S2 e => ?_⟩
  · split
    · exact h.nd
    · rename_i hn
      rw [List.nodup_append]
      exact ⟨h.nd, by simp, fun a ha b hb => by simp at hb; subst hb; exact fun e => hn (e ▸ ha)⟩
  · rcases List.mem_append.mp hy with hy | hy
    · exact h.tq y (.tail _ hy)
    · exact kidsT_tree (List.mem_reverse.mp (List.mem_filter.mp hy).1)
  · rcases hin y hy with hy | rfl
    · exact h.tS y hy
    · exact h.tq _ (.head _)
  · by_cases hm : c ∈ (if x ∈ S then S else S ++ [x])
    · exact .inl hm
    · refine .inr (List.mem_append.mpr ?_)
      rcases hin y hy with hy | rfl
      · rcases h.cl y hy c hc with h1 | h1
        · exact absurd (hS c h1) hm
        · rcases List.mem_cons.mp h1 with rfl | h1
          · exact absurd hx hm
          · exact .inl h1
      · exact .inr (List.mem_filter.mpr ⟨List.mem_reverse.mpr hc, by simpa using hm⟩)
  · rcases List.mem_append.mp hc with hc | hc
    · rcases h.oq c (.tail _ hc) with rfl | ⟨y, hy, hk⟩
      · exact .inl rfl
      · exact .inr ⟨y, hS y hy, hk⟩
    · exact .inr ⟨x, hx, List.mem_reverse.mp (List.mem_filter.mp hc).1⟩
  · split at e
    · exact h.oS S1 c S2 e
    · rcases snoc_split e with ⟨_, rfl, rfl⟩ | ⟨S3, _, e⟩
      · exact h.oq _ (.head _)
      · exact h.oS S1 c S3 e
theorem bfs_sub (g : Gf) : ∀ f q S, ∀ x ∈ S, x ∈ bfs g f q S := by
  intro f
  induction f with
  | zero => intro q S x hx; exact hx
  | succ f ih =>
    intro q S x hx
    cases q with
    | nil => exact hx
    | cons y q =>
      unfold bfs
      dsimp only
      refine ih _ _ x ?_
      split
      · exact hx
      · simp [hx]
theorem bfs_spec {g : Gf} {N : Nat} (Fg : Fing g N) {r : Addr} : ∀ f q S, szT g N q < f → BI g r q S → BI g r [] (bfs g f q S) := by
  intro f
  induction f with
  | zero => intro q S h; omega
  | succ f ih =>
    intro q S hf h
    cases q with
    | nil => exact h
    | cons x q =>
      unfold bfs
      dsimp only
      refine ih _ _ ?_ h.step
      have h1 := szT_kids (p := fun c => decide (c ∉ (if x ∈ S then S else S ++ [x]))) Fg (h.tq x (.head _))
      unfold szT at *
      rw [List.flatMap_append, List.length_append]
      rw [List.flatMap_cons, List.length_append] at hf
      omega
theorem bfs_mem {g : Gf} {N : Nat} {r : Addr} (hr : isTree g r = true) : r ∈ bfs g ((gdown g N r).length + 1) [r] [] := by
  unfold bfs
  dsimp only
  exact bfs_sub g _ _ _ r (by simp)

section
variable {g : Gf} {as : List Addr} {N : Nat}
theorem Gb.root (B : Gb g as) : ∃ r, as[0]? = some r := ⟨as[0]'B.ne, List.getElem?_eq_getElem B.ne⟩
/-- a set that holds the root and is closed holds all -/
theorem Gb.all (B : Gb g as) {r : Addr} (hr : as[0]? = some r) (P : Addr → Prop) (h0 : P r) (hc : ∀ x, P x → ∀ c ∈ kidsT g x, P c) : ∀ a ∈ as, P a := by
  have key : ∀ (k j : Nat) (a : Addr), j < k → as[j]? = some a → P a := by
    intro k
    induction k with
    | zero => intro j a h; omega
    | succ k ih =>
      intro j a hj ha
      by_cases h0' : j = 0
      · subst h0'; rw [hr] at ha; cases ha; exact h0
      · obtain ⟨i, x, hi, hx, hk⟩ := B.par j a ha (by omega)
        exact hc x (ih i x (by omega) hx) a hk
  intro a ha
  obtain ⟨j, hj⟩ := List.mem_iff_getElem?.mp ha
  exact key (j + 1) j a (by omega) hj
theorem Gb.bi (B : Gb g as) (Fg : Fing g N) {r : Addr} (hr : as[0]? = some r) : BI g r [] (bfs g ((gdown g N r).length + 1) [r] []) := by
  have hT := B.ex r (List.mem_of_getElem? hr)
  refine bfs_spec Fg _ _ _ (by unfold szT; simp) ⟨List.nodup_nil, fun x hx => by simp at hx; subst hx; exact hT, fun x hx => (nomatch hx), fun x hx => (nomatch hx), fun c hc => by simp at hc; exact .inl hc, fun S1 c S2 e => by simp at e⟩
theorem Gb.bfs_all (B : Gb g as) (Fg : Fing g N) {r : Addr} (hr : as[0]? = some r) : ∀ a ∈ as, a ∈ bfs g ((gdown g N r).length + 1) [r] [] := by
  have hT := B.ex r (List.mem_of_getElem? hr)
  have h := B.bi Fg hr
  refine B.all hr _ (bfs_mem hT) fun x hx c hc => ?_
  rcases h.cl x hx c hc with h | h
  · exact h
  · cases h
theorem nodup_len {α : Type} [DecidableEq α] : ∀ {as L : List α}, as.Nodup → (∀ a ∈ as, a ∈ L) → as.length ≤ L.length ∧ (L.length = as.length → L.Perm as) := by
  intro as
  induction as with
  | nil => intro L _ _; exact ⟨Nat.zero_le _, fun e => by rw [List.length_eq_zero_iff.mp e]⟩
  | cons a as ih =>
    intro L hn hs
    rw [List.nodup_cons] at hn
    have ha := hs a (.head _)
    have hp := List.perm_cons_erase ha
    have hl := hp.length_eq
    rw [List.length_cons] at hl
    obtain ⟨h1, h2⟩ := ih (L := L.erase a) hn.2 fun x hx => by
      have hne : x ≠ a := fun e => hn.1 (e ▸ hx)
      exact (List.mem_erase_of_ne hne).mpr (hs x (.tail _ hx))
    refine ⟨by rw [List.length_cons]; omega, fun e => hp.trans (List.Perm.cons _ (h2 (by rw [List.length_cons] at e; omega)))⟩
theorem Gb.bfs_perm (B : Gb g as) (Fg : Fing g N) {r : Addr} (hr : as[0]? = some r) : (bfs g ((gdown g N r).length + 1) [r] []).Perm as := by
  have h := B.bi Fg hr
  have h1 := nodup_len h.nd fun a ha => B.tr a (h.tS a ha)
  have h2 := nodup_len B.nd (B.bfs_all Fg hr)
  exact h2.2 (by omega)
/-- each tree is told once -/
theorem Gb.once (B : Gb g as) (Fg : Fing g N) {r : Addr} (hr : as[0]? = some r) :
    (bfs g ((gdown g N r).length + 1) [r] []).reverse.length = (as.filter fun t => (bfs g ((gdown g N r).length + 1) [r] []).reverse.count t == 1).length ∧ (bfs g ((gdown g N r).length + 1) [r] []).reverse.length = as.length := by
  have hp := B.bfs_perm Fg hr
  have hall : as.filter (fun t => (bfs g ((gdown g N r).length + 1) [r] []).reverse.count t == 1) = as := by
    refine List.filter_eq_self.mpr fun a ha => ?_
    rw [List.count_reverse, hp.count_eq]
    have h1 : 0 < as.count a := List.count_pos_iff.mpr ha
    have h2 : as.count a ≤ 1 := List.nodup_iff_count.mp B.nd a
    simp; omega
  rw [hall, List.length_reverse, hp.length_eq]
  exact ⟨rfl, rfl⟩

/-- the walk down meets a tree's kids as often as the tree -/
theorem gdown_perm : ∀ n a, Dp g n a → isTree g a = true → (gdown g n a).Perm (a :: (gdown g n a).flatMap (kidsT g)) := by
  intro n
  induction n with
  | zero => intro a ⟨d, k, v, e⟩ h; unfold isTree at h; rw [e] at h; cases h
  | succ n ih =>
    intro a hD h
    obtain ⟨d, l, nm, ks, e⟩ := node_of h
    unfold Dp at hD; rw [e] at hD
    have hg : gdown g (n + 1) a = a :: ks.flatMap (gdown g n) := by rw [gdown, e]
    rw [hg, List.flatMap_cons]
    refine List.Perm.cons _ ?_
    have hk : kidsT g a = ks.filter (isTree g) := by unfold kidsT; rw [e]
    rw [hk]
    clear hg hk e
    dsimp only at hD
    induction ks with
    | nil => exact .nil
    | cons k ks ih2 =>
      have h2 := ih2 fun q hq => hD q (.tail _ hq)
      rw [List.flatMap_cons, List.flatMap_append, List.filter_cons]
      cases hT : isTree g k with
      | true =>
        have h1 := ih k (hD k (.head _)) hT
        rw [if_pos rfl]
        rw [List.perm_iff_count] at h1 h2 ⊢
        intro c
        have h1 := h1 c
        have h2 := h2 c
        simp only [List.count_append, List.count_cons, List.cons_append] at h1 h2 ⊢
        omega
      | false =>
        rw [if_neg Bool.false_ne_true, gdown_tok hT]
        exact h2
theorem Gb.down_all (B : Gb g as) (hN : as.length ≤ N) {r : Addr} (hr : as[0]? = some r) : ∀ a ∈ as, a ∈ gdown g N r := by
  have hT := B.ex r (List.mem_of_getElem? hr)
  obtain ⟨d, l, nm, ks, e⟩ := node_of hT
  have hp := gdown_perm N r (B.dp hN r _ e) hT
  refine B.all hr _ (by rw [(B.fing hN).down _ _ _ _ _ e]; exact .head _) fun x hx c hc => ?_
  exact hp.mem_iff.mpr (.tail _ (List.mem_flatMap.mpr ⟨x, hx, hc⟩))
theorem nodup_flat {α β : Type} {f : α → List β} : ∀ {l : List α} {x y : α} {c : β}, (l.flatMap f).Nodup → x ∈ l → y ∈ l → c ∈ f x → c ∈ f y → x = y
  | z :: l, x, y, c, hn, hx, hy, h1, h2 => by
    rw [List.flatMap_cons, List.nodup_append] at hn
    rcases List.mem_cons.mp hx with e1 | hx'
    · rcases List.mem_cons.mp hy with e2 | hy'
      · rw [e1, e2]
      · subst e1; exact absurd rfl (hn.2.2 c h1 c (List.mem_flatMap.mpr ⟨y, hy', h2⟩))
    · rcases List.mem_cons.mp hy with e2 | hy'
      · subst e2; exact absurd rfl (hn.2.2 c h2 c (List.mem_flatMap.mpr ⟨x, hx', h1⟩))
      · exact nodup_flat hn.2.1 hx' hy' h1 h2
/-- where no tree stands in two places, each is told behind all below it -/
theorem Gb.order (B : Gb g as) (hN : as.length ≤ N) {r : Addr} (hr : as[0]? = some r) (hl : (gdown g N r).length = as.length) {k : Nat} {x c : Addr}
    (hx : (bfs g ((gdown g N r).length + 1) [r] []).reverse[k]? = some x) (hc : c ∈ kidsT g x) : c ∈ (bfs g ((gdown g N r).length + 1) [r] []).reverse.take k := by
  have Fg := B.fing hN
  have hT := B.ex r (List.mem_of_getElem? hr)
  obtain ⟨d, l, nm, ks, e⟩ := node_of hT
  have h := B.bi Fg hr
  have hall := B.bfs_all Fg hr
  have hp := gdown_perm N r (B.dp hN r _ e) hT
  have hd := nodup_len B.nd (B.down_all hN hr)
  have hnd : (gdown g N r).Nodup := (hd.2 hl).nodup_iff.mpr B.nd
  have hnd2 := hp.nodup_iff.mp hnd
  rw [List.nodup_cons] at hnd2
  generalize hS : bfs g ((gdown g N r).length + 1) [r] [] = S at *
  have hxS : x ∈ S := List.mem_reverse.mp (List.mem_of_getElem? hx)
  have hcS : c ∈ S := hall c (B.tr c (kidsT_tree hc))
  have hcr : c ≠ r := fun q => hnd2.1 (List.mem_flatMap.mpr ⟨x, B.down_all hN hr x (B.tr x (h.tS x hxS)), q ▸ hc⟩)
  obtain ⟨S1, S2, rfl⟩ := List.append_of_mem hcS
  have hy : ∃ y ∈ S1, c ∈ kidsT g y := by
    rcases h.oS S1 c S2 rfl with q | q
    · exact absurd q hcr
    · exact q
  obtain ⟨y, hy, hcy⟩ := hy
  have hyS : y ∈ S1 ++ c :: S2 := List.mem_append_left _ hy
  have hxy : x = y := nodup_flat hnd2.2 (B.down_all hN hr x (B.tr x (h.tS x hxS))) (B.down_all hN hr y (B.tr y (h.tS y hyS))) hc hcy
  subst hxy
  obtain ⟨i, hi⟩ := List.mem_iff_getElem?.mp hy
  have hil := (List.getElem?_eq_some_iff.mp hi).1
  have hk := (List.getElem?_eq_some_iff.mp hx).1
  rw [List.length_reverse, List.length_append, List.length_cons] at hk
  rw [List.getElem?_reverse (by rw [List.length_append, List.length_cons]; omega)] at hx
  have hi2 : (S1 ++ c :: S2)[i]? = some x := by rw [List.getElem?_append_left hil]; exact hi
  have := nodup_get h.nd hx hi2
  rw [List.length_append, List.length_cons] at this
  have hrev : (S1 ++ c :: S2).reverse = S2.reverse ++ c :: S1.reverse := by simp
  rw [hrev]
  have hlt : S2.length < k := by omega
  rw [List.take_append, List.length_reverse]
  refine List.mem_append_right _ ?_
  obtain ⟨m, hm⟩ : ∃ m, k - S2.length = m + 1 := ⟨k - S2.length - 1, by omega⟩
  rw [hm]
  exact .head _
end
end PartM2

section PartM3
open PySem PySem.W PyProof.Rows PySem.Calls
set_option maxRecDepth 100000
set_option maxHeartbeats 400000
set_option linter.unusedVariables false

theorem allZ_swap {f f' : Addr → Addr → Bool} (h : ∀ x y, f x y = f' y x) : ∀ xs ys, allZ f xs ys = allZ f' ys xs
  | [], [] => rfl
  | [], _ :: _ => rfl
  | _ :: _, [] => rfl
  | x :: xs, y :: ys => by unfold allZ; rw [h, allZ_swap h xs ys]
theorem eqv_sym {g h : Gf} : ∀ n x y, eqv g h n x y = eqv h g n y x := by
  intro n
  induction n with
  | zero =>
    intro x y
    unfold eqv
    cases e1 : g x with
    | none => cases e2 : h y with
      | none => rfl
      | some nd => cases nd <;> rfl
    | some nd => cases e2 : h y with
      | none => cases nd <;> rfl
      | some nd' => cases nd <;> cases nd' <;> first | rfl | (dsimp only; congr 1 <;> exact Bool.beq_comm)
  | succ n ih =>
    intro x y
    unfold eqv
    cases e1 : g x with
    | none => cases e2 : h y with
      | none => rfl
      | some nd => cases nd <;> rfl
    | some nd => cases e2 : h y with
      | none => cases nd <;> rfl
      | some nd' =>
        cases nd <;> cases nd' <;> first
          | rfl
          | (dsimp only; congr 1 <;> first | exact Bool.beq_comm | exact allZ_swap ih _ _)
theorem allZ_trans {f1 f2 f3 : Addr → Addr → Bool} (h : ∀ x y z, f1 x y = true → f2 y z = true → f3 x z = true) : ∀ xs ys zs, allZ f1 xs ys = true → allZ f2 ys zs = true → allZ f3 xs zs = true
  | [], [], [], _, _ => rfl
  | x :: xs, y :: ys, z :: zs, h1, h2 => by
    unfold allZ at h1 h2 ⊢
    rw [Bool.and_eq_true] at h1 h2 ⊢
    exact ⟨h x y z h1.1 h2.1, allZ_trans h xs ys zs h1.2 h2.2⟩
  | [], [], _ :: _, _, h2 => by cases h2
  | [], _ :: _, _, h1, _ => by cases h1
  | _ :: _, [], _, h1, _ => by cases h1
  | _ :: _, _ :: _, [], _, h2 => by cases h2
theorem eqv_trans {g h k : Gf} : ∀ n x y z, eqv g h n x y = true → eqv h k n y z = true → eqv g k n x z = true := by
  intro n
  induction n with
  | zero =>
    intro x y z h1 h2
    unfold eqv at h1 h2 ⊢
    split at h1
    · rename_i e1 e2
      rw [e2] at h2
      split at h2
      · rename_i e3 e4
        cases e3
        rw [e1, e4]
        simp only [Bool.and_eq_true, beq_iff_eq] at h1 h2 ⊢
        exact ⟨h1.1.trans h2.1, h1.2.trans h2.2⟩
      · cases h2
    · cases h1
  | succ n ih =>
    intro x y z h1 h2
    unfold eqv at h1 h2 ⊢
    split at h1
    · rename_i e1 e2
      rw [e2] at h2
      split at h2
      · rename_i e3 e4
        cases e3
        rw [e1, e4]
        simp only [Bool.and_eq_true, beq_iff_eq] at h1 h2 ⊢
        exact ⟨h1.1.trans h2.1, h1.2.trans h2.2⟩
      · rename_i e3 _; cases e3
      · cases h2
    · rename_i e1 e2
      rw [e2] at h2
      split at h2
      · rename_i e3 _; cases e3
      · rename_i e3 e4
        cases e3
        rw [e1, e4]
        simp only [Bool.and_eq_true, beq_iff_eq] at h1 h2 ⊢
        exact ⟨h1.1.trans h2.1, allZ_trans ih _ _ _ h1.2 h2.2⟩
      · cases h2
    · cases h1
theorem eqv_tree {g h : Gf} {n : Nat} {x y : Addr} (e : eqv g h n x y = true) : isTree g x = isTree h y := by
  unfold isTree
  cases n <;>
  · unfold eqv at e
    cases e1 : g x with
    | none => rw [e1] at e; cases e2 : h y with
      | none => rfl
      | some nd => rw [e2] at e; cases nd <;> cases e
    | some nd => rw [e1] at e; cases e2 : h y with
      | none => rw [e2] at e; cases nd <;> cases e
      | some nd' => rw [e2] at e; cases nd <;> cases nd' <;> first | rfl | cases e
/-- two nodes -/
theorem eqv_node {g h : Gf} {n : Nat} {x y d l d' l' : Addr} {nm nm' : Str} {ks ks' : List Addr} (e1 : g x = some (.node d l nm ks)) (e2 : h y = some (.node d' l' nm' ks')) : eqv g h (n + 1) x y = (nm == nm' && allZ (eqv g h n) ks ks') := by
  unfold eqv; rw [e1, e2]
def kv (g : Gf) (a : Addr) : Str × Str := match g a with
  | some (.tok d k v) => (k, v)
  | _ => ("", "")
def nmOf (g : Gf) (a : Addr) : Str := match g a with
  | some (.node d l nm ks) => nm
  | _ => ""
theorem eqv_kv {g h : Gf} {n : Nat} {x y : Addr} (e : eqv g h n x y = true) (hx : isTree g x = false) : kv g x = kv h y := by
  unfold kv
  unfold isTree at hx
  cases n <;>
  · unfold eqv at e
    cases e1 : g x with
    | none => rw [e1] at e; cases e2 : h y with
      | none => rfl
      | some nd => rw [e2] at e; cases nd <;> cases e
    | some nd => rw [e1] at e hx; cases e2 : h y with
      | none => rw [e2] at e; cases nd <;> cases e
      | some nd' =>
        rw [e2] at e
        cases nd <;> cases nd' <;> first
          | (cases hx; done)
          | (cases e; done)
          | (simp only [Bool.and_eq_true, beq_iff_eq] at e; dsimp only; rw [e.1, e.2])
theorem allZ_flat {α : Type} {f : Addr → Addr → Bool} {F G : Addr → List α} (h : ∀ x y, f x y = true → F x = G y) : ∀ xs ys, allZ f xs ys = true → xs.flatMap F = ys.flatMap G
  | [], [], _ => rfl
  | x :: xs, y :: ys, e => by
    unfold allZ at e
    rw [Bool.and_eq_true] at e
    rw [List.flatMap_cons, List.flatMap_cons, h x y e.1, allZ_flat h xs ys e.2]
  | [], _ :: _, e => by cases e
  | _ :: _, [], e => by cases e
theorem map_flat {α β γ : Type} {f : α → List β} {m : β → γ} (l : List α) : (l.flatMap f).map m = l.flatMap fun x => (f x).map m := by
  induction l with
  | nil => rfl
  | cons x l ih => rw [List.flatMap_cons, List.map_append, ih, List.flatMap_cons]
/-- equal things have equal tokens -/
theorem eqv_toks {g h : Gf} : ∀ n x y, eqv g h n x y = true → (gtoks g n x).map (kv g) = (gtoks h n y).map (kv h) := by
  intro n
  induction n with
  | zero => intro x y _; rfl
  | succ n ih =>
    intro x y e
    unfold eqv at e
    unfold gtoks
    split at e
    · rename_i e1 e2; rw [e1, e2]; rfl
    · rename_i e1 e2
      rw [e1, e2]
      dsimp only
      rw [Bool.and_eq_true] at e
      rw [map_flat, map_flat]
      refine allZ_flat (fun x y hxy => ?_) _ _ e.2
      have ht := eqv_tree hxy
      cases q : isTree g x with
      | true => rw [← ht, q]; exact ih x y hxy
      | false =>
        rw [← ht, q]
        simp only [Bool.false_eq_true, if_false, List.map_cons, List.map_nil]
        rw [eqv_kv hxy q]
    · cases e
/-- equal things have equal names -/
theorem eqv_names {g h : Gf} : ∀ n x y, eqv g h n x y = true → (gdown g n x).map (nmOf g) = (gdown h n y).map (nmOf h) := by
  intro n
  induction n with
  | zero => intro x y _; rfl
  | succ n ih =>
    intro x y e
    unfold eqv at e
    unfold gdown
    split at e
    · rename_i e1 e2; rw [e1, e2]; rfl
    · rename_i e1 e2
      rw [e1, e2]
      dsimp only
      rw [Bool.and_eq_true, beq_iff_eq] at e
      rw [List.map_cons, List.map_cons, map_flat, map_flat]
      congr 1
      · unfold nmOf; rw [e1, e2]; exact e.1
      · exact allZ_flat (fun x y hxy => ih x y hxy) _ _ e.2
    · cases e
theorem allZ_get {f : Addr → Addr → Bool} : ∀ {xs ys : List Addr} {i : Nat} {x y : Addr}, allZ f xs ys = true → xs[i]? = some x → ys[i]? = some y → f x y = true
  | x :: xs, y :: ys, 0, _, _, e, h1, h2 => by
    unfold allZ at e; rw [Bool.and_eq_true] at e; simp at h1 h2; subst h1 h2; exact e.1
  | x :: xs, y :: ys, i + 1, _, _, e, h1, h2 => by
    unfold allZ at e; rw [Bool.and_eq_true] at e; simp at h1 h2; exact allZ_get e.2 h1 h2
  | [], _, i, _, _, _, h1, _ => by simp at h1
  | _ :: _, [], i, _, _, _, _, h2 => by simp at h2
theorem allZ_of {f : Addr → Addr → Bool} : ∀ {xs ys : List Addr}, xs.length = ys.length → (∀ (i : Nat) (x y : Addr), xs[i]? = some x → ys[i]? = some y → f x y = true) → allZ f xs ys = true
  | [], [], _, _ => rfl
  | x :: xs, y :: ys, hl, h => by
    unfold allZ
    rw [h 0 x y rfl rfl, allZ_of (by simpa using hl) fun i a b ha hb => h (i + 1) a b (by simpa using ha) (by simpa using hb)]; rfl
  | [], _ :: _, hl, _ => by simp at hl
  | _ :: _, [], hl, _ => by simp at hl
theorem allZ_len_eq {f : Addr → Addr → Bool} {xs ys : List Addr} (e : allZ f xs ys = true) : xs.length = ys.length := by
  by_cases h : xs.length = ys.length
  · exact h
  · rw [allZ_len h] at e; cases e
/-- a graph changed where nothing leads -/
theorem eqv_congr {g h h' : Gf} (P : Addr → Prop) (hp : ∀ y, P y → h y = h' y) (hc : ∀ y d l nm ks, P y → h y = some (.node d l nm ks) → ∀ c ∈ ks, P c) : ∀ n x y, P y → eqv g h n x y = eqv g h' n x y := by
  intro n
  induction n with
  | zero => intro x y hy; unfold eqv; rw [hp y hy]
  | succ n ih =>
    intro x y hy
    unfold eqv
    rw [← hp y hy]
    cases e1 : g x with
    | none => rfl
    | some nd =>
      cases e2 : h y with
      | none => cases nd <;> rfl
      | some nd' =>
        cases nd <;> cases nd' <;> first
          | rfl
          | (dsimp only
             congr 1
             rename_i ks _ _ _ ks'
             have hk := hc y _ _ _ _ hy e2
             clear e1 e2
             have : ∀ xs ys : List Addr, (∀ c ∈ ys, P c) → allZ (eqv g h n) xs ys = allZ (eqv g h' n) xs ys := fun xs => by
               induction xs with
               | nil => intro ys _; cases ys <;> rfl
               | cons a xs ih2 =>
                 intro ys hy
                 cases ys with
                 | nil => rfl
                 | cons b ys => unfold allZ; rw [ih a b (hy b (.head _)), ih2 ys fun c hc => hy c (.tail _ hc)]
             exact this _ _ hk)
/-- the children of a tree -/
def kidsOf (g : Gf) (p : Addr) : List Addr := match g p with
  | some (.node d l nm ks) => ks
  | _ => []
theorem lastSome_ok {α : Type} {f : Nat → Option α} : ∀ {n : Nat} {x : α}, lastSome f n = some x → ∃ k, k < n ∧ f k = some x
  | n + 1, x, e => by
    rw [lastSome_succ] at e
    cases q : f n with
    | none => rw [q, Option.none_or] at e; obtain ⟨k, h1, h2⟩ := lastSome_ok e; exact ⟨k, by omega, h2⟩
    | some y => rw [q, Option.some_or] at e; exact ⟨n, by omega, q.trans e⟩
theorem gpos_ok {g : Gf} : ∀ n a p k, gpos g n a = some (p, k) → ∃ d l nm ks c, g p = some (.node d l nm ks) ∧ ks[k]? = some c ∧ isTree g c = false := by
  intro n
  induction n with
  | zero => intro a p k e; cases e
  | succ n ih =>
    intro a p k e
    unfold gpos at e
    split at e
    · rename_i d l nm ks hga
      obtain ⟨m, hm, e⟩ := lastSome_ok e
      cases hk : ks[m]? with
      | none => rw [hk] at e; cases e
      | some c =>
        rw [hk] at e
        simp only [Option.bind_some] at e
        cases hT : isTree g c with
        | true => rw [hT, if_pos rfl] at e; exact ih c p k e
        | false => rw [hT, if_neg Bool.false_ne_true] at e; cases e; exact ⟨d, l, nm, ks, c, hga, hk, hT⟩
    · cases e
/-- the last token stands there -/
theorem gpos_last {g : Gf} : ∀ n a, (gtoks g n a).getLast? = (gpos g n a).bind fun q => (kidsOf g q.1)[q.2]? := by
  intro n
  induction n with
  | zero => intro a; rfl
  | succ n ih =>
    intro a
    unfold gtoks gpos
    cases hga : g a with
    | none => rfl
    | some nd =>
    cases nd with
    | tok d k v => rfl
    | node d l nm ks =>
      dsimp only
      have key : ∀ m, m ≤ ks.length → ((ks.take m).flatMap fun k => if isTree g k = true then gtoks g n k else [k]).getLast? =
          (lastSome (fun k => (ks[k]?).bind fun c => if isTree g c = true then gpos g n c else some (a, k)) m).bind fun q => (kidsOf g q.1)[q.2]? := by
        intro m
        induction m with
        | zero => intro _; rfl
        | succ m ihm =>
          intro hm
          have hk : ks[m]? = some ks[m] := List.getElem?_eq_getElem (by omega)
          rw [flatTake hk, List.getLast?_append, ihm (by omega), lastSome_succ, hk]
          simp only [Option.bind_some]
          cases hT : isTree g ks[m] with
          | true =>
            simp only [if_true]
            rw [ih]
            cases hq : gpos g n ks[m] with
            | none => simp
            | some q =>
              obtain ⟨d', l', nm', ks', c, h1, h2, _⟩ := gpos_ok n _ q.1 q.2 hq
              have : (kidsOf g q.1)[q.2]? = some c := by unfold kidsOf; rw [h1]; exact h2
              simp [this]
          | false =>
            have : (kidsOf g a)[m]? = some ks[m] := by unfold kidsOf; rw [hga]; exact hk
            simp [this]
      have := key ks.length (Nat.le_refl _)
      rw [List.take_length] at this
      exact this
end PartM3

section PartM4
open PySem PySem.W PyProof.Rows PySem.Calls
set_option maxRecDepth 100000
set_option maxHeartbeats 400000
set_option linter.unusedVariables false

/-- a graph with other children at p -/
def repK (g : Gf) (p : Addr) (ks' : List Addr) : Gf := fun a => if a = p then (match g p with | some (.node d l nm _) => some (.node d l nm ks') | o => o) else g a
/-- a graph with a token more -/
def addT (g : Gf) (tk : Addr) (nd : Nd) : Gf := fun a => if a = tk then some nd else g a
/-- a graph with another name at p -/
def renG (g : Gf) (p : Addr) (nm' : Str) : Gf := fun a => if a = p then (match g p with | some (.node d l _ ks) => some (.node d l nm' ks) | o => o) else g a
def putG (g : Gf) (p : Addr) (k : Nat) (tk : Addr) (nd : Nd) : Gf := repK (addT g tk nd) p ((kidsOf g p).set k tk)

def KidLike (S : Prop) (g g' : Gf) (c c' : Addr) : Prop :=
  (isTree g c = true ∧ c' = c) ∨ ∃ d k v d' k' v', g c = some (.tok d k v) ∧ g' c' = some (.tok d' k' v') ∧ (S → k = k' ∧ v = v')
/-- the same trees, other tokens -/
structure Like (S : Prop) (g g' : Gf) : Prop where
  node : ∀ a d l nm ks, g a = some (.node d l nm ks) → ∃ ks', g' a = some (.node d l nm ks') ∧ ks'.length = ks.length ∧ ∀ (i : Nat) (c c' : Addr), ks[i]? = some c → ks'[i]? = some c' → KidLike S g g' c c'
  oth : ∀ a, isTree g a = false → isTree g' a = false
theorem Like.tree {S : Prop} {g g' : Gf} (h : Like S g g') (a : Addr) : isTree g' a = isTree g a := by
  cases q : isTree g a with
  | false => exact h.oth a q
  | true =>
    obtain ⟨d, l, nm, ks, e⟩ := node_of q
    obtain ⟨ks', e', _⟩ := h.node _ _ _ _ _ e
    exact isTree_of e'
theorem lastSome_congr {α : Type} {f g : Nat → Option α} : ∀ {n : Nat}, (∀ k, k < n → f k = g k) → lastSome f n = lastSome g n
  | 0, _ => rfl
  | n + 1, h => by rw [lastSome_succ, lastSome_succ, h n (by omega), lastSome_congr fun k hk => h k (by omega)]
theorem tokF {g : Gf} {a d : Addr} {k v : Str} (e : g a = some (.tok d k v)) : isTree g a = false := isTree_of e
theorem Like.gpos {S : Prop} {g g' : Gf} (h : Like S g g') : ∀ n a, gpos g' n a = gpos g n a := by
  intro n
  induction n with
  | zero => intro a; rfl
  | succ n ih =>
    intro a
    unfold Mine.gpos
    cases q : isTree g a with
    | false =>
      have q' := h.oth a q
      unfold isTree at q q'
      cases e : g a with
      | none => cases e' : g' a with
        | none => rfl
        | some nd => rw [e'] at q'; cases nd <;> first | rfl | cases q'
      | some nd => rw [e] at q; cases nd with
        | node => cases q
        | tok => cases e' : g' a with
          | none => rfl
          | some nd => rw [e'] at q'; cases nd <;> first | rfl | cases q'
    | true =>
      obtain ⟨d, l, nm, ks, e⟩ := node_of q
      obtain ⟨ks', e', hl, hk⟩ := h.node _ _ _ _ _ e
      rw [e, e']
      dsimp only
      rw [hl]
      refine lastSome_congr fun i hi => ?_
      have h1 : ks[i]? = some ks[i] := List.getElem?_eq_getElem hi
      have h2 : ks'[i]? = some (ks'[i]'(by omega)) := List.getElem?_eq_getElem (by omega)
      have hkl := hk i _ _ h1 h2
      rw [h1, h2]
      simp only [Option.bind_some]
      rcases hkl with ⟨t, e3⟩ | ⟨d1, k1, v1, d2, k2, v2, t1, t2, _⟩
      · rw [e3, h.tree, t, if_pos rfl, if_pos rfl, ih]
      · rw [tokF t1, tokF t2]; rfl
theorem Like.dp {S : Prop} {g g' : Gf} (h : Like S g g') : ∀ n a, isTree g a = true → Dp g n a → Dp g' n a := by
  intro n
  induction n with
  | zero => intro a q ⟨d, k, v, e⟩; rw [tokF e] at q; cases q
  | succ n ih =>
    intro a q hD
    obtain ⟨d, l, nm, ks, e⟩ := node_of q
    obtain ⟨ks', e', hl, hk⟩ := h.node _ _ _ _ _ e
    unfold Dp at hD ⊢
    rw [e] at hD; rw [e']
    intro c' hc'
    obtain ⟨i, hi⟩ := List.mem_iff_getElem?.mp hc'
    have hlt := (List.getElem?_eq_some_iff.mp hi).1
    have h1 : ks[i]? = some (ks[i]'(by omega)) := List.getElem?_eq_getElem (by omega)
    rcases hk i _ _ h1 hi with ⟨t, e3⟩ | ⟨d1, k1, v1, d2, k2, v2, t1, t2, _⟩
    · subst e3; exact ih _ t (hD _ (List.mem_of_getElem? h1))
    · exact Dp.tok t2 n
theorem Like.eqv {g g' : Gf} (h : Like True g g') : ∀ n a, isTree g a = true → Dp g n a → eqv g g' n a a = true := by
  intro n
  induction n with
  | zero => intro a q ⟨d, k, v, e⟩; rw [tokF e] at q; cases q
  | succ n ih =>
    intro a q hD
    obtain ⟨d, l, nm, ks, e⟩ := node_of q
    obtain ⟨ks', e', hl, hk⟩ := h.node _ _ _ _ _ e
    unfold Dp at hD
    rw [e] at hD
    rw [eqv_node e e', beq_self_eq_true, Bool.true_and]
    refine allZ_of hl.symm fun i x y hx hy => ?_
    rcases hk i x y hx hy with ⟨t, e3⟩ | ⟨d1, k1, v1, d2, k2, v2, t1, t2, hs⟩
    · subst e3; exact ih _ t (hD _ (List.mem_of_getElem? hx))
    · obtain ⟨rfl, rfl⟩ := hs trivial
      rw [eqv_tok t1 t2]; simp
theorem Like.len {S : Prop} {g g' : Gf} (h : Like S g g') {m : Nat} (hg : ∀ p d l nm ks, g p = some (.node d l nm ks) → ks.length ≤ m) : ∀ p d l nm ks, g' p = some (.node d l nm ks) → ks.length ≤ m := by
  intro p d l nm ks e
  have q : isTree g p = true := by rw [← h.tree]; exact isTree_of e
  obtain ⟨d', l', nm', ks', e0⟩ := node_of q
  obtain ⟨ks2, e2, hl, _⟩ := h.node _ _ _ _ _ e0
  rw [e] at e2; cases e2
  rw [hl]; exact hg _ _ _ _ _ e0

section
variable {g : Gf} {p tk c dt : Addr} {k : Nat} {kt vt : Str} {d l : Addr} {nm : Str} {ks : List Addr}
theorem putG_p (e : g p = some (.node d l nm ks)) (hn : tk ≠ p) : putG g p k tk (.tok dt kt vt) p = some (.node d l nm (ks.set k tk)) := by
  unfold putG repK addT kidsOf
  rw [if_pos rfl, if_neg (Ne.symm hn), e]
theorem putG_tk (hn : tk ≠ p) : putG g p k tk (.tok dt kt vt) tk = some (.tok dt kt vt) := by
  unfold putG repK addT
  rw [if_neg hn, if_pos rfl]
theorem putG_o {a : Addr} (h1 : a ≠ p) (h2 : a ≠ tk) : putG g p k tk (.tok dt kt vt) a = g a := by
  unfold putG repK addT
  rw [if_neg h1, if_neg h2]
theorem like_put (e : g p = some (.node d l nm ks)) (hc : ks[k]? = some c) (ht : ∃ d0 k0 v0, g c = some (.tok d0 k0 v0)) (hn : g tk = none) (hall : ∀ a d l nm ks, g a = some (.node d l nm ks) → ∀ c ∈ ks, ∃ nd, g c = some nd) : Like False g (putG g p k tk (.tok dt kt vt)) where
  node := fun a d' l' nm' ks' ea => by
    have hne : tk ≠ p := fun q => by rw [q, e] at hn; cases hn
    have hat : a ≠ tk := fun q => by rw [q, hn] at ea; cases ea
    have old : ∀ (x : Addr), (∃ nd, g x = some nd) → KidLike False g (putG g p k tk (.tok dt kt vt)) x x := fun x ⟨nd, hx⟩ => by
      cases nd with
      | node => exact .inl ⟨isTree_of hx, rfl⟩
      | tok d1 k1 v1 =>
        refine .inr ⟨d1, k1, v1, d1, k1, v1, hx, ?_, fun h => h.elim⟩
        rw [putG_o (fun q => by rw [q, e] at hx; cases hx) (fun q => by rw [q, hn] at hx; cases hx)]; exact hx
    by_cases q : a = p
    · subst q
      rw [e] at ea; cases ea
      refine ⟨_, putG_p e hne, by rw [List.length_set], fun i x y hx hy => ?_⟩
      rw [List.getElem?_set] at hy
      split at hy
      · rename_i q; subst q
        split at hy
        · cases hy
          rw [hc] at hx; cases hx
          obtain ⟨d0, k0, v0, h0⟩ := ht
          exact .inr ⟨d0, k0, v0, dt, kt, vt, h0, putG_tk hne, fun h => h.elim⟩
        · cases hy
      · rw [hx] at hy; cases hy
        exact old x (hall _ _ _ _ _ e x (List.mem_of_getElem? hx))
    · refine ⟨ks', by rw [putG_o q hat]; exact ea, rfl, fun i x y hx hy => ?_⟩
      rw [hx] at hy; cases hy
      exact old x (hall _ _ _ _ _ ea x (List.mem_of_getElem? hx))
  oth := fun a ha => by
    have hne : tk ≠ p := fun q => by rw [q, e] at hn; cases hn
    by_cases q : a = p
    · subst q; rw [isTree_of e] at ha; cases ha
    by_cases q2 : a = tk
    · subst q2; exact isTree_of (putG_tk hne)
    · unfold isTree; rw [putG_o q q2]; exact ha
/-- put twice: the old kind and value again -/
theorem like_put2 {tk2 dt2 d0 : Addr} {k0 v0 kt1 vt1 : Str} (e : g p = some (.node d l nm ks)) (hc : ks[k]? = some c) (ht : g c = some (.tok d0 k0 v0)) (hn : g tk = none) (hn2 : g tk2 = none) (hne2 : tk2 ≠ tk)
    (hall : ∀ a d l nm ks, g a = some (.node d l nm ks) → ∀ c ∈ ks, ∃ nd, g c = some nd) : Like True g (putG (putG g p k tk (.tok dt kt1 vt1)) p k tk2 (.tok dt2 k0 v0)) where
  node := fun a d' l' nm' ks' ea => by
    have hne : tk ≠ p := fun q => by rw [q, e] at hn; cases hn
    have hne2' : tk2 ≠ p := fun q => by rw [q, e] at hn2; cases hn2
    have hat : a ≠ tk := fun q => by rw [q, hn] at ea; cases ea
    have hat2 : a ≠ tk2 := fun q => by rw [q, hn2] at ea; cases ea
    have old : ∀ (x : Addr), (∃ nd, g x = some nd) → KidLike True g (putG (putG g p k tk (.tok dt kt1 vt1)) p k tk2 (.tok dt2 k0 v0)) x x := fun x ⟨nd, hx⟩ => by
      cases nd with
      | node => exact .inl ⟨isTree_of hx, rfl⟩
      | tok d1 k1 v1 =>
        refine .inr ⟨d1, k1, v1, d1, k1, v1, hx, ?_, fun _ => ⟨rfl, rfl⟩⟩
        have hxp : x ≠ p := fun q => by rw [q, e] at hx; cases hx
        rw [putG_o hxp (fun q => by rw [q, hn2] at hx; cases hx), putG_o hxp (fun q => by rw [q, hn] at hx; cases hx)]; exact hx
    by_cases q : a = p
    · subst q
      rw [e] at ea; cases ea
      refine ⟨_, putG_p (putG_p e hne) hne2', by rw [List.length_set, List.length_set], fun i x y hx hy => ?_⟩
      rw [List.set_set, List.getElem?_set] at hy
      split at hy
      · rename_i q; subst q
        split at hy
        · cases hy
          rw [hc] at hx; cases hx
          exact .inr ⟨d0, k0, v0, dt2, k0, v0, ht, putG_tk hne2', fun _ => ⟨rfl, rfl⟩⟩
        · cases hy
      · rw [hx] at hy; cases hy
        exact old x (hall _ _ _ _ _ e x (List.mem_of_getElem? hx))
    · refine ⟨ks', by rw [putG_o q hat2, putG_o q hat]; exact ea, rfl, fun i x y hx hy => ?_⟩
      rw [hx] at hy; cases hy
      exact old x (hall _ _ _ _ _ ea x (List.mem_of_getElem? hx))
  oth := fun a ha => by
    have hne : tk ≠ p := fun q => by rw [q, e] at hn; cases hn
    have hne2' : tk2 ≠ p := fun q => by rw [q, e] at hn2; cases hn2
    by_cases q : a = p
    · subst q; rw [isTree_of e] at ha; cases ha
    by_cases q2 : a = tk2
    · subst q2; exact isTree_of (putG_tk hne2')
    by_cases q3 : a = tk
    · subst q3; unfold isTree; rw [putG_o q q2, putG_tk hne]
    · unfold isTree; rw [putG_o q q2, putG_o q q3]; exact ha
/-- the last token behind a put -/
theorem last_put {n : Nat} {a : Addr} (L : Like False g (putG g p k tk (.tok dt kt vt))) (hp : gpos g n a = some (p, k)) (hn : g tk = none) :
    ((gtoks (putG g p k tk (.tok dt kt vt)) n a).map (kv (putG g p k tk (.tok dt kt vt)))).getLast? = some (kt, vt) := by
  obtain ⟨d, l, nm, ks, c, e, hc, _⟩ := gpos_ok n a p k hp
  have hne : tk ≠ p := fun q => by rw [q, e] at hn; cases hn
  have hk := (List.getElem?_eq_some_iff.mp hc).1
  rw [List.getLast?_map, gpos_last, L.gpos, hp]
  have : (kidsOf (putG g p k tk (.tok dt kt vt)) p)[k]? = some tk := by unfold kidsOf; rw [putG_p e hne]; simp [hk]
  simp only [Option.bind_some, this, Option.map_some]
  unfold kv; rw [putG_tk hne]
end

section
variable {σ τ : Sg} {g : Gf}
/-- the lists stand apart -/
def SepL (g : Gf) : Prop := ∀ a a' d l nm ks d' l' nm' ks', g a = some (.node d l nm ks) → g a' = some (.node d' l' nm' ks') → l = l' ∨ d = d' → a = a'
theorem ndAt_list {p l : Addr} {cl : Cl} {nd : Nd} {a : Addr} {xs : List Value} (h : NdAt σ a nd) (hl : σ.at_ l = some (.lst xs)) (hn : ∀ d l' nm ks, nd = .node d l' nm ks → l' ≠ l) (hE : Ext (σ.put l cl) τ) : NdAt τ a nd := by
  have keep : ∀ y c, σ.at_ y = some c → y ≠ l → τ.at_ y = some c := fun y c e hy => hE.at_ _ _ (putA_ne hy e)
  cases nd with
  | node d l' nm ks =>
    obtain ⟨⟨t, h1, h2⟩, h3⟩ := h
    exact ⟨⟨t, keep _ _ h1 (fun q => by rw [q, hl] at h1; cases h1), keep _ _ h2 (fun q => by rw [q, hl] at h2; cases h2)⟩, keep _ _ h3 (hn _ _ _ _ rfl)⟩
  | tok d k v =>
    obtain ⟨t, u, h1, h2⟩ := h
    exact ⟨t, u, keep _ _ h1 (fun q => by rw [q, hl] at h1; cases h1), keep _ _ h2 (fun q => by rw [q, hl] at h2; cases h2)⟩
/-- the state behind a list's change -/
theorem gr_repK {p d l : Addr} {nm : Str} {ks ks' : List Addr} (hG : Gr σ g) (hs : SepL g) (e : g p = some (.node d l nm ks)) (hE : Ext (σ.put l (.lst (ks'.map .ref))) τ) : Gr τ (repK g p ks') := fun a nd ha => by
  have hl := (hG p _ e).2
  unfold repK at ha
  split at ha
  · rename_i q; subst q
    rw [e] at ha; cases ha
    obtain ⟨⟨t, h1, h2⟩, h3⟩ := hG _ _ e
    have keep : ∀ y c, σ.at_ y = some c → y ≠ l → τ.at_ y = some c := fun y c e hy => hE.at_ _ _ (putA_ne hy e)
    exact ⟨⟨t, keep _ _ h1 (fun q => by rw [q, hl] at h1; cases h1), keep _ _ h2 (fun q => by rw [q, hl] at h2; cases h2)⟩, hE.at_ _ _ putA_same⟩
  · rename_i q
    exact ndAt_list (p := p) (hG a nd ha) hl (fun d' l' nm' ks' en => fun q2 => by subst en; exact q (hs _ _ _ _ _ _ _ _ _ _ ha e (.inl q2))) hE
theorem gr_addT {tk dt : Addr} {kt vt : Str} (hG : Gr σ g) (ht : NdAt σ tk (.tok dt kt vt)) : Gr σ (addT g tk (.tok dt kt vt)) := fun a nd ha => by
  unfold addT at ha
  split at ha
  · rename_i q; subst q; cases ha; exact ht
  · exact hG a nd ha
theorem sep_addT {tk dt : Addr} {kt vt : Str} (hs : SepL g) : SepL (addT g tk (.tok dt kt vt)) := fun a a' d l nm ks d' l' nm' ks' h1 h2 h => by
  unfold addT at h1 h2
  split at h1
  · cases h1
  · split at h2
    · cases h2
    · exact hs _ _ _ _ _ _ _ _ _ _ h1 h2 h
theorem sep_repK {p : Addr} {ks0 : List Addr} (hs : SepL g) : SepL (repK g p ks0) := by
  have back : ∀ a d l nm ks, repK g p ks0 a = some (.node d l nm ks) → ∃ ks', g a = some (.node d l nm ks') := fun a d l nm ks e => by
    unfold repK at e
    split at e
    · rename_i q; subst q
      cases e2 : g a with
      | none => rw [e2] at e; cases e
      | some nd => cases nd with
        | node => rw [e2] at e; cases e; exact ⟨_, rfl⟩
        | tok => rw [e2] at e; cases e
    · exact ⟨_, e⟩
  intro a a' d l nm ks d' l' nm' ks' h1 h2 h
  obtain ⟨k1, h1⟩ := back _ _ _ _ _ h1
  obtain ⟨k2, h2⟩ := back _ _ _ _ _ h2
  exact hs _ _ _ _ _ _ _ _ _ _ h1 h2 h
theorem gr_put {p tk dt d l : Addr} {kt vt nm : Str} {k : Nat} {ks : List Addr} (hG : Gr σ g) (hs : SepL g) (ht : NdAt σ tk (.tok dt kt vt)) (hn : g tk = none) (e : g p = some (.node d l nm ks)) (hE : Ext (σ.put l (.lst ((ks.set k tk).map .ref))) τ) :
    Gr τ (putG g p k tk (.tok dt kt vt)) ∧ SepL (putG g p k tk (.tok dt kt vt)) := by
  have hne : p ≠ tk := fun q => by rw [← q, e] at hn; cases hn
  have e' : addT g tk (.tok dt kt vt) p = some (.node d l nm ks) := by unfold addT; rw [if_neg hne]; exact e
  have hk : kidsOf g p = ks := by unfold kidsOf; rw [e]
  unfold putG
  rw [hk]
  exact ⟨gr_repK (gr_addT hG ht) (sep_addT hs) e' hE, sep_repK (sep_addT hs)⟩
end
end PartM4

section PartM5
open PySem PySem.W PyProof.Rows PySem.Calls
set_option maxRecDepth 100000
set_option maxHeartbeats 400000
set_option linter.unusedVariables false

def KidOk (n i : Nat) : Kid → Prop
  | .t j => i < j ∧ j < n
  | .k kd v => (kd = "X" ∨ kd = "Y") ∧ ∃ q : Nat, q < 11 ∧ v = toString (q : Int)
structure BlOk (B : Bl) (m : Nat) : Prop where
  ne : 0 < B.length
  len : B.length ≤ m + 1
  sum : (B.map fun p => p.2.length).sum ≤ m
  kid : ∀ (i : Nat) p, B[i]? = some p → ∀ c ∈ p.2, KidOk B.length i c
  par : ∀ j : Nat, 0 < j → j < B.length → ∃ i p, i < j ∧ B[i]? = some p ∧ .t j ∈ p.2
  nms : ∀ (i : Nat) p, B[i]? = some p → p.1 ≠ "z"
theorem KidOk.mono {n n' i : Nat} {c : Kid} (h : KidOk n i c) (hn : n ≤ n') : KidOk n' i c := by
  cases c with
  | t j => exact ⟨h.1, Nat.lt_of_lt_of_le h.2 hn⟩
  | k kd v => exact h
theorem sum_set {B : Bl} {u : Nat} {p q : Str × List Kid} (h : B[u]? = some p) (hq : q.2.length = p.2.length + 1) : ((B.set u q).map fun p => p.2.length).sum = (B.map fun p => p.2.length).sum + 1 := by
  induction B generalizing u with
  | nil => simp at h
  | cons x B ih =>
    cases u with
    | zero => simp at h; subst h; simp [hq]; omega
    | succ u => simp at h; have := ih h; simp only [List.set_cons_succ, List.map_cons, List.sum_cons, this]; omega
theorem BlOk.addKid {B : Bl} {m u : Nat} {c : Kid} (h : BlOk B m) (hu : u < B.length) (hc : KidOk B.length u c) : BlOk (Mine.addKid B u c) (m + 1) := by
  have hB : B[u]? = some B[u] := List.getElem?_eq_getElem hu
  have e : Mine.addKid B u c = B.set u (B[u].1, B[u].2 ++ [c]) := by unfold Mine.addKid; rw [hB]
  have get : ∀ (i : Nat) p, (B.set u (B[u].1, B[u].2 ++ [c]))[i]? = some p → (i = u ∧ p = (B[u].1, B[u].2 ++ [c])) ∨ B[i]? = some p := fun i p hi => by
    rw [List.getElem?_set] at hi
    split at hi
    · rename_i q
      try rw [if_pos hu] at hi
      cases hi; exact .inl ⟨q.symm, rfl⟩
    · exact .inr hi
  rw [e]
  refine ⟨by rw [List.length_set]; exact h.ne, by rw [List.length_set]; have := h.len; omega, by rw [sum_set hB (by simp)]; have := h.sum; omega, fun i p hi k hk => ?_, fun j h0 hj => ?_, fun i p hi => ?_⟩
  · rw [List.length_set]
    rcases get i p hi with ⟨rfl, rfl⟩ | hi
    · rcases List.mem_append.mp hk with hk | hk
      · exact h.kid _ _ hB k hk
      · simp at hk; subst hk; exact hc
    · exact h.kid i p hi k hk
  · rw [List.length_set] at hj
    obtain ⟨i, p, hi, hp, hm⟩ := h.par j h0 hj
    by_cases q : i = u
    · subst q
      rw [hB] at hp; cases hp
      exact ⟨i, _, hi, by rw [List.getElem?_set_self hu], List.mem_append_left _ hm⟩
    · exact ⟨i, p, hi, by rw [List.getElem?_set_ne (Ne.symm q)]; exact hp, hm⟩
  · rcases get i p hi with ⟨rfl, rfl⟩ | hi
    · have h1 := h.nms _ _ hB; exact h1
    · exact h.nms i p hi
theorem BlOk.addTree {B : Bl} {m u : Nat} {nm : Str} (h : BlOk B m) (hu : u < B.length) (hn : nm ≠ "z") : BlOk (Mine.addKid (B ++ [(nm, [])]) u (.t B.length)) (m + 1) := by
  have hB : B[u]? = some B[u] := List.getElem?_eq_getElem hu
  have hB2 : (B ++ [(nm, [])])[u]? = some B[u] := by rw [List.getElem?_append_left hu]; exact hB
  have e : Mine.addKid (B ++ [(nm, [])]) u (.t B.length) = (B ++ [(nm, [])]).set u (B[u].1, B[u].2 ++ [Kid.t B.length]) := by unfold Mine.addKid; rw [hB2]
  have hsm : ((B ++ [(nm, ([] : List Kid))]).map fun p => p.2.length).sum = (B.map fun p => p.2.length).sum := by simp
  have get : ∀ (i : Nat) p, ((B ++ [(nm, [])]).set u (B[u].1, B[u].2 ++ [Kid.t B.length]))[i]? = some p → (i = u ∧ p = (B[u].1, B[u].2 ++ [Kid.t B.length])) ∨ B[i]? = some p ∨ p = (nm, []) := fun i p hi => by
    rw [List.getElem?_set] at hi
    split at hi
    · rename_i q
      try rw [if_pos (by simp; omega)] at hi
      cases hi; exact .inl ⟨q.symm, rfl⟩
    · refine .inr ?_
      rcases Nat.lt_or_ge i B.length with q | q
      · rw [List.getElem?_append_left q] at hi; exact .inl hi
      · rw [List.getElem?_append_right q] at hi
        cases hz : i - B.length with
        | zero => rw [hz] at hi; simp at hi; exact .inr hi.symm
        | succ z => rw [hz] at hi; simp at hi
  have hl : ((B ++ [(nm, [])]).set u (B[u].1, B[u].2 ++ [Kid.t B.length])).length = B.length + 1 := by simp
  rw [e]
  refine ⟨by omega, by rw [hl]; have := h.len; omega, by rw [sum_set hB2 (by simp), hsm]; have := h.sum; omega, fun i p hi k hk => ?_, fun j h0 hj => ?_, fun i p hi => ?_⟩
  · rw [hl]
    rcases get i p hi with ⟨rfl, rfl⟩ | hi | rfl
    · rcases List.mem_append.mp hk with hk | hk
      · exact (h.kid _ _ hB k hk).mono (by omega)
      · simp at hk; subst hk; exact ⟨hu, by omega⟩
    · exact (h.kid i p hi k hk).mono (by omega)
    · cases hk
  · rw [hl] at hj
    by_cases qj : j = B.length
    · subst qj
      exact ⟨u, _, hu, by rw [List.getElem?_set_self (by simp; omega)], by simp⟩
    obtain ⟨i, p, hi, hp, hm⟩ := h.par j h0 (by omega)
    by_cases q : i = u
    · subst q
      rw [hB] at hp; cases hp
      exact ⟨i, _, hi, by rw [List.getElem?_set_self (by simp; omega)], List.mem_append_left _ hm⟩
    · refine ⟨i, p, hi, ?_, hm⟩
      rw [List.getElem?_set_ne (Ne.symm q), List.getElem?_append_left (List.getElem?_eq_some_iff.mp hp).1]; exact hp
  · rcases get i p hi with ⟨rfl, rfl⟩ | hi | rfl
    · have h1 := h.nms _ _ hB; exact h1
    · exact h.nms i p hi
    · exact hn
theorem under_lt {B : Bl} (h : 0 < B.length) (num : Int) : under B num < B.length := by
  unfold under
  have h1 := Int.fmod_lt_of_pos (num.fdiv 4) (b := (B.length : Int)) (by omega)
  have h2 := Int.fmod_nonneg_of_pos (num.fdiv 4) (b := (B.length : Int)) (by omega)
  omega
theorem kindName_z (k : Int) : kindName k ≠ "z" := by
  unfold kindName
  split
  · decide
  · split <;> decide
theorem BlOk.step {B : Bl} {m : Nat} (h : BlOk B m) (k : Nat) (hk : k < 11) (num : Int) : BlOk (bstep B k num) (m + 1) := by
  have hu := under_lt h.ne num
  unfold bstep
  split
  · refine h.addKid hu ⟨?_, k, hk, rfl⟩
    unfold tokKind; split <;> simp
  · split
    · rename_i q
      exact h.addKid hu ⟨by omega, by omega⟩
    · exact h.addTree hu (kindName_z _)
theorem BlOk.builtN (ns : List Int) : ∀ k, k ≤ 11 → BlOk (builtN ns k) k
  | 0, _ => ⟨by simp [Mine.builtN], by simp [Mine.builtN], by simp [Mine.builtN], fun i p hi c hc => by
      cases i with
      | zero => simp [Mine.builtN] at hi; subst hi; cases hc
      | succ i => simp [Mine.builtN] at hi, fun j h0 hj => by simp [Mine.builtN] at hj; omega, fun i p hi => by
      cases i with
      | zero => simp [Mine.builtN] at hi; subst hi; decide
      | succ i => simp [Mine.builtN] at hi⟩
  | k + 1, h => (BlOk.builtN ns k (by omega)).step k (by omega) _
theorem BlOk.mono {B : Bl} {m m' : Nat} (h : BlOk B m) (hm : m ≤ m') : BlOk B m' := ⟨h.ne, by have := h.len; omega, by have := h.sum; omega, h.kid, h.par, h.nms⟩
theorem BlOk.built (ns : List Int) : BlOk (built ns) 11 := (BlOk.builtN ns (min ns.length 11) (by omega)).mono (by omega)

/-- the graph of the records -/
def Gof (rs : List Rec) (tk : List TkR) : Gf := fun a => match rs.find? (fun r => r.a == a) with
  | some r => some (.node r.d r.l r.nm r.ks)
  | none => match tk.find? (fun t => t.a == a) with
    | some t => some (.tok t.d t.kd t.v)
    | none => none
section
variable {σ₀ σ : Sg} {B : Bl} {rs : List Rec} {tk : List TkR}
theorem Bld.gof (X : Bld σ₀ σ B rs tk) {r : Rec} (h : r ∈ rs) : Gof rs tk r.a = some (.node r.d r.l r.nm r.ks) := by
  unfold Gof
  have : rs.find? (fun q => q.a == r.a) = some r := by
    have key : ∀ l : List Rec, (l.map (·.a)).Nodup → r ∈ l → l.find? (fun q => q.a == r.a) = some r := fun l => by
      induction l with
      | nil => intro _ h; cases h
      | cons x l ih =>
        intro hn hm
        rw [List.map_cons, List.nodup_cons] at hn
        rw [List.find?_cons]
        rcases List.mem_cons.mp hm with rfl | hm
        · simp
        · have : (x.a == r.a) = false := by
            rw [beq_eq_false_iff_ne]; exact fun e => hn.1 (e ▸ List.mem_map.mpr ⟨r, hm, rfl⟩)
          rw [this]; exact ih hn.2 hm
    exact key rs X.ra h
  rw [this]
theorem Bld.gofT (X : Bld σ₀ σ B rs tk) {t : TkR} (h : t ∈ tk) : Gof rs tk t.a = some (.tok t.d t.kd t.v) := by
  unfold Gof
  cases e : rs.find? (fun r => r.a == t.a) with
  | some r =>
    have hr := List.mem_of_find?_eq_some e
    have ha := List.find?_some e
    rw [beq_iff_eq] at ha
    have h1 := X.at_ r hr
    rw [ha] at h1
    exact absurd (h1.uniq (X.tok t h)) (by intro q; cases q)
  | none =>
    dsimp only
    cases e2 : tk.find? (fun q => q.a == t.a) with
    | none => exact absurd (List.find?_eq_none.mp e2 t h) (by simp)
    | some t' =>
      have ht := List.mem_of_find?_eq_some e2
      have ha := List.find?_some e2
      rw [beq_iff_eq] at ha
      have h1 := X.tok t' ht
      rw [ha] at h1
      have := h1.uniq (X.tok t h)
      exact congrArg some this
theorem Bld.gofI (X : Bld σ₀ σ B rs tk) {a : Addr} {nd : Nd} (e : Gof rs tk a = some nd) : (∃ r ∈ rs, r.a = a ∧ nd = .node r.d r.l r.nm r.ks) ∨ ∃ t ∈ tk, t.a = a ∧ nd = .tok t.d t.kd t.v := by
  unfold Gof at e
  cases e1 : rs.find? (fun r => r.a == a) with
  | some r =>
    rw [e1] at e
    have ha := List.find?_some e1
    rw [beq_iff_eq] at ha
    cases e
    exact .inl ⟨r, List.mem_of_find?_eq_some e1, ha, rfl⟩
  | none =>
    rw [e1] at e
    dsimp only at e
    cases e2 : tk.find? (fun q => q.a == a) with
    | none => rw [e2] at e; cases e
    | some t' =>
      rw [e2] at e
      have ha := List.find?_some e2
      rw [beq_iff_eq] at ha
      cases e
      exact .inr ⟨t', List.mem_of_find?_eq_some e2, ha, rfl⟩
theorem Bld.gr (X : Bld σ₀ σ B rs tk) : Gr σ (Gof rs tk) := fun a nd e => by
  rcases X.gofI e with ⟨r, hr, rfl, rfl⟩ | ⟨t, ht, rfl, rfl⟩
  · exact X.at_ r hr
  · exact X.tok t ht
theorem Bld.newG (X : Bld σ₀ σ B rs tk) {a : Addr} {nd : Nd} (e : Gof rs tk a = some nd) : σ₀.at_ a = none := by
  rcases X.gofI e with ⟨r, hr, rfl, rfl⟩ | ⟨t, ht, rfl, rfl⟩
  · exact (X.new r hr).1
  · exact X.newt t ht
theorem Bld.kidR (X : Bld σ₀ σ B rs tk) {k : Kid} {c : Addr} (h : KidR rs tk k c) : (∃ j r, k = .t j ∧ rs[j]? = some r ∧ r.a = c) ∨ ∃ d kd v, k = .k kd v ∧ Gof rs tk c = some (.tok d kd v) := by
  cases k with
  | t j =>
    have h : (rs.map (·.a))[j]? = some c := h
    rw [List.getElem?_map] at h
    obtain ⟨r, h1, h2⟩ := Option.map_eq_some_iff.mp h
    exact .inl ⟨j, r, rfl, h1, h2⟩
  | k kd v => obtain ⟨d, hd⟩ := h; exact .inr ⟨d, kd, v, rfl, X.gofT hd⟩
theorem Paired.getR {α β : Type} {R : α → β → Prop} {l₁ : List α} {l₂ : List β} (h : Paired R l₁ l₂) {i : Nat} {y : β} (hy : l₂[i]? = some y) : ∃ x, l₁[i]? = some x ∧ R x y := by
  induction h generalizing i with
  | nil => simp at hy
  | cons h t ih =>
    cases i with
    | zero => simp at hy; subst hy; exact ⟨_, rfl, h⟩
    | succ i => simp at hy; obtain ⟨y, h1, h2⟩ := ih hy; exact ⟨y, by simpa using h1, h2⟩
theorem Paired.sumLen (h : Paired (fun (r : Rec) (p : Str × List Kid) => r.nm = p.1 ∧ Paired (KidR rs tk) p.2 r.ks) rs B) : (rs.map fun r => r.ks.length).sum = (B.map fun p => p.2.length).sum := by
  have key : ∀ (l : List Rec) (B : Bl), Paired (fun (r : Rec) (p : Str × List Kid) => r.nm = p.1 ∧ Paired (KidR rs tk) p.2 r.ks) l B → (l.map fun r => r.ks.length).sum = (B.map fun p => p.2.length).sum := fun l B h => by
    induction h with
    | nil => rfl
    | cons h _ ih => simp only [List.map_cons, List.sum_cons, ih, h.2.length]
  exact key _ _ h
theorem Bld.gb (X : Bld σ₀ σ B rs tk) (hB : BlOk B 11) : Gb (Gof rs tk) (rs.map (·.a)) where
  nd := X.ra
  ne := by rw [List.length_map, X.len]; exact hB.ne
  tr := fun a h => by
    obtain ⟨d, l, nm, ks, e⟩ := node_of h
    rcases X.gofI e with ⟨r, hr, rfl, _⟩ | ⟨t, _, _, q⟩
    · exact List.mem_map.mpr ⟨r, hr, rfl⟩
    · cases q
  ex := fun a h => by obtain ⟨r, hr, rfl⟩ := List.mem_map.mp h; exact isTree_of (X.gof hr)
  kid := fun i a d l nm ks hi e c hc => by
    rw [List.getElem?_map] at hi
    obtain ⟨r, h1, rfl⟩ := Option.map_eq_some_iff.mp hi
    have hr := List.mem_of_getElem? h1
    rw [X.gof hr] at e; cases e
    obtain ⟨p, hp, _, hk⟩ := Paired.get X.sh h1
    obtain ⟨m, hm⟩ := List.mem_iff_getElem?.mp hc
    obtain ⟨k, hk1, hk2⟩ := Paired.getR hk hm
    have ok := hB.kid i p hp k (List.mem_of_getElem? hk1)
    rcases X.kidR hk2 with ⟨j, q, rfl, hq, rfl⟩ | ⟨d, kd, v, rfl, hq⟩
    · exact ⟨⟨_, X.gof (List.mem_of_getElem? hq)⟩, fun _ => ⟨j, ok.1, by rw [List.getElem?_map, hq]; rfl⟩⟩
    · exact ⟨⟨_, hq⟩, fun h => by rw [isTree_of hq] at h; cases h⟩
  par := fun j c hj h0 => by
    rw [List.getElem?_map] at hj
    obtain ⟨r, h1, rfl⟩ := Option.map_eq_some_iff.mp hj
    obtain ⟨i, p, hi, hp, hm⟩ := hB.par j h0 (by rw [← X.len]; exact (List.getElem?_eq_some_iff.mp h1).1)
    obtain ⟨q, hq, _, hk⟩ := Paired.getR X.sh hp
    obtain ⟨m, hm⟩ := List.mem_iff_getElem?.mp hm
    obtain ⟨c, hc1, hc2⟩ := Paired.get hk hm
    refine ⟨i, q.a, hi, by rw [List.getElem?_map, hq]; rfl, ?_⟩
    have hc2 : (rs.map (·.a))[j]? = some c := hc2
    rw [List.getElem?_map, h1] at hc2; cases hc2
    unfold kidsT; rw [X.gof (List.mem_of_getElem? hq)]
    exact List.mem_filter.mpr ⟨List.mem_of_getElem? hc1, isTree_of (X.gof (List.mem_of_getElem? h1))⟩
  n12 := by rw [List.length_map, X.len]; exact hB.len
  e11 := by
    have : (rs.map (·.a)).map (kidN (Gof rs tk)) = rs.map fun r => r.ks.length := by
      rw [List.map_map]
      refine List.map_congr_left fun r hr => ?_
      show kidN _ r.a = _
      unfold kidN; rw [X.gof hr]
    rw [this, Paired.sumLen X.sh]; exact hB.sum
  tk := fun p c dt kd v hc e => by
    unfold kidsA at hc
    cases e1 : Gof rs tk p with
    | none => rw [e1] at hc; cases hc
    | some nd =>
      rw [e1] at hc
      rcases X.gofI e1 with ⟨r, hr, rfl, rfl⟩ | ⟨t, _, _, rfl⟩
      · dsimp only at hc
        obtain ⟨i, h1⟩ := List.mem_iff_getElem?.mp hr
        obtain ⟨p, hp, _, hk⟩ := Paired.get X.sh h1
        obtain ⟨m, hm⟩ := List.mem_iff_getElem?.mp hc
        obtain ⟨k, hk1, hk2⟩ := Paired.getR hk hm
        have ok := hB.kid i p hp k (List.mem_of_getElem? hk1)
        rcases X.kidR hk2 with ⟨j, q, rfl, hq, rfl⟩ | ⟨d, kd', v', rfl, hq⟩
        · rw [X.gof (List.mem_of_getElem? hq)] at e; cases e
        · rw [hq] at e; cases e
          obtain ⟨h1, q, hq11, rfl⟩ := ok
          refine ⟨h1, ?_⟩
          have : ∀ q : Fin 11, ((toString ((q.val : Nat) : Int) : String) : Str) ≠ "other" := by decide
          exact this ⟨q, hq11⟩
      · cases hc
  nms := fun a d l nm ks e => by
    rcases X.gofI e with ⟨r, hr, rfl, q⟩ | ⟨t, _, _, q⟩
    · cases q
      obtain ⟨i, h1⟩ := List.mem_iff_getElem?.mp hr
      obtain ⟨p, hp, hn, _⟩ := Paired.get X.sh h1
      rw [hn]; exact hB.nms i p hp
    · cases q
  sep := fun a a' d l nm ks d' l' nm' ks' e1 e2 h => by
    rcases X.gofI e1 with ⟨r, hr, rfl, q⟩ | ⟨t, _, _, q⟩
    · rcases X.gofI e2 with ⟨r', hr', rfl, q'⟩ | ⟨t, _, _, q'⟩
      · cases q; cases q'
        obtain ⟨i, h1⟩ := List.mem_iff_getElem?.mp hr
        obtain ⟨j, h2⟩ := List.mem_iff_getElem?.mp hr'
        have : i = j := by
          rcases h with h | h
          · exact nodup_get X.rl (a := r.l) (by rw [List.getElem?_map, h1]; rfl) (by rw [List.getElem?_map, h2, h]; rfl)
          · exact nodup_get X.rd (a := r.d) (by rw [List.getElem?_map, h1]; rfl) (by rw [List.getElem?_map, h2, h]; rfl)
        subst this
        rw [h1] at h2; cases h2; rfl
      · cases q'
    · cases q
/-- built alike, equal -/
theorem eqv_twin {σ₀' σ' : Sg} {rs' : List Rec} {tk' : List TkR} (X : Bld σ₀ σ B rs tk) (Y : Bld σ₀' σ' B rs' tk') :
    ∀ (n i : Nat) (r r' : Rec), rs[i]? = some r → rs'[i]? = some r' → Dp (Gof rs tk) n r.a → eqv (Gof rs tk) (Gof rs' tk') n r.a r'.a = true := by
  intro n
  induction n with
  | zero => intro i r r' h1 h2 ⟨d, k, v, e⟩; rw [X.gof (List.mem_of_getElem? h1)] at e; cases e
  | succ n ih =>
    intro i r r' h1 h2 hD
    have e1 := X.gof (List.mem_of_getElem? h1)
    have e2 := Y.gof (List.mem_of_getElem? h2)
    obtain ⟨p, hp, hn, hk⟩ := Paired.get X.sh h1
    obtain ⟨p', hp', hn', hk'⟩ := Paired.get Y.sh h2
    rw [hp] at hp'; cases hp'
    unfold Dp at hD; rw [e1] at hD
    rw [eqv_node e1 e2, hn, hn', beq_self_eq_true, Bool.true_and]
    refine allZ_of (by rw [← hk.length, ← hk'.length]) fun m x y hx hy => ?_
    obtain ⟨k1, a1, b1⟩ := Paired.getR hk hx
    obtain ⟨k2, a2, b2⟩ := Paired.getR hk' hy
    rw [a1] at a2; cases a2
    rcases X.kidR b1 with ⟨j, q, rfl, hq, rfl⟩ | ⟨d, kd, v, rfl, hq⟩
    · rcases Y.kidR b2 with ⟨j', q', e, hq', rfl⟩ | ⟨d, kd, v, e, _⟩
      · cases e
        exact ih j q q' hq hq' (hD _ (List.mem_of_getElem? hx))
      · cases e
    · rcases Y.kidR b2 with ⟨j', q', e, _⟩ | ⟨d', kd', v', e, hq'⟩
      · cases e
      · cases e
        rw [eqv_tok hq hq']; simp
end
end PartM5

section PartM6
open PySem PySem.W PyProof.Rows PySem.Calls
set_option maxRecDepth 100000
set_option maxHeartbeats 400000
set_option linter.unusedVariables false

theorem gdown_tree {g : Gf} : ∀ n r a, a ∈ gdown g n r → isTree g a = true := by
  intro n
  induction n with
  | zero => intro r a h; cases h
  | succ n ih =>
    intro r a h
    unfold gdown at h
    split at h
    · rename_i e
      rcases List.mem_cons.mp h with rfl | h
      · exact isTree_of e
      · obtain ⟨k, _, hk⟩ := List.mem_flatMap.mp h
        exact ih k a hk
    · cases h
section
variable {g h : Gf} {p d l : Addr} {nm nm' : Str} {ks : List Addr}
theorem renG_p (e : g p = some (.node d l nm ks)) : renG g p nm' p = some (.node d l nm' ks) := by
  unfold renG; rw [if_pos rfl, e]
theorem renG_o {a : Addr} (hn : a ≠ p) : renG g p nm' a = g a := by unfold renG; rw [if_neg hn]
theorem dp_ren (e : g p = some (.node d l nm ks)) : ∀ n a, Dp g n a → Dp (renG g p nm') n a := by
  intro n
  induction n with
  | zero =>
    intro a ⟨d, k, v, ea⟩
    exact ⟨d, k, v, by rw [renG_o (fun q => by rw [q, e] at ea; cases ea)]; exact ea⟩
  | succ n ih =>
    intro a hD
    unfold Dp at hD ⊢
    by_cases q : a = p
    · subst q
      rw [e] at hD; rw [renG_p e]
      exact fun k hk => ih k (hD k hk)
    · rw [renG_o q]
      cases ea : g a with
      | none => rw [ea] at hD; exact hD
      | some nd => rw [ea] at hD; cases nd with
        | tok => trivial
        | node => exact fun k hk => ih k (hD k hk)
theorem gdown_ren (e : g p = some (.node d l nm ks)) : ∀ n a, gdown (renG g p nm') n a = gdown g n a := by
  intro n
  induction n with
  | zero => intro a; rfl
  | succ n ih =>
    intro a
    unfold gdown
    by_cases q : a = p
    · subst q
      rw [e, renG_p e]
      dsimp only
      congr 2; funext k; exact ih k
    · rw [renG_o q]
      cases ea : g a with
      | none => rfl
      | some nd => cases nd with
        | tok => rfl
        | node => dsimp only; congr 2; funext k; exact ih k
/-- a name that the other has not -/
theorem eqv_ren {n : Nat} {r r' : Addr} (hz : ∀ a d l nm ks, g a = some (.node d l nm ks) → nm ≠ nm') (e : h p = some (.node d l nm ks)) (hp : p ∈ gdown h n r') : eqv g (renG h p nm') n r r' = false := by
  cases q : eqv g (renG h p nm') n r r' with
  | false => rfl
  | true =>
    have h1 := eqv_names n r r' q
    rw [gdown_ren e] at h1
    have h2 : nm' ∈ (gdown h n r').map (nmOf (renG h p nm')) := List.mem_map.mpr ⟨p, hp, by unfold nmOf; rw [renG_p e]⟩
    rw [← h1] at h2
    obtain ⟨a, ha, hn⟩ := List.mem_map.mp h2
    obtain ⟨d', l', nm2, ks', ea⟩ := node_of (gdown_tree n r a ha)
    unfold nmOf at hn; rw [ea] at hn
    exact absurd hn (hz _ _ _ _ _ ea)
theorem gr_ren {σ τ : Sg} {t : Tok} (hG : Gr σ g) (hs : SepL g) (e : g p = some (.node d l nm ks)) (hE : Ext (σ.put d (.dct [("data", .str nm' t), ("children", .ref l), ("_meta", .none)])) τ) : Gr τ (renG g p nm') := fun a nd ha => by
  obtain ⟨⟨tp, hp1, hp2⟩, hp3⟩ := hG _ _ e
  have keep : ∀ y c, σ.at_ y = some c → y ≠ d → τ.at_ y = some c := fun y c e hy => hE.at_ _ _ (putA_ne hy e)
  unfold renG at ha
  split at ha
  · rename_i q; subst q
    rw [e] at ha; cases ha
    exact ⟨⟨t, keep _ _ hp1 (fun q => by rw [q, hp2] at hp1; cases hp1), hE.at_ _ _ putA_same⟩, keep _ _ hp3 (fun q => by rw [q, hp2] at hp3; cases hp3)⟩
  · rename_i q
    have hh := hG a nd ha
    cases nd with
    | node d' l' nm2 ks' =>
      obtain ⟨⟨ta, h1, h2⟩, h3⟩ := hh
      exact ⟨⟨ta, keep _ _ h1 (fun q => by rw [q, hp2] at h1; cases h1), keep _ _ h2 (fun q2 => by
        have := hs _ _ _ _ _ _ _ _ _ _ ha e (.inr q2); exact q this)⟩, keep _ _ h3 (fun q => by rw [q, hp2] at h3; cases h3)⟩
    | tok d' k v =>
      obtain ⟨t1, u1, h1, h2⟩ := hh
      exact ⟨t1, u1, keep _ _ h1 (fun q => by rw [q, hp2] at h1; cases h1), keep _ _ h2 (fun q => by
        rw [q, hp2] at h2
        injection h2 with h2; injection h2 with h2
        injection h2 with h2
        injection h2 with h2
        revert h2; decide)⟩

/-- a graph with other children at the root -/
theorem repK_p {ks' : List Addr} (e : g p = some (.node d l nm ks)) : repK g p ks' p = some (.node d l nm ks') := by unfold repK; rw [if_pos rfl, e]
theorem repK_o {ks' : List Addr} {a : Addr} (hn : a ≠ p) : repK g p ks' a = g a := by unfold repK; rw [if_neg hn]
theorem dp_congr {h' : Gf} (P : Addr → Prop) (hp : ∀ y, P y → h y = h' y) (hc : ∀ y d l nm ks, P y → h y = some (.node d l nm ks) → ∀ c ∈ ks, P c) : ∀ n y, P y → Dp h n y → Dp h' n y := by
  intro n
  induction n with
  | zero => intro y hy ⟨d, k, v, e⟩; exact ⟨d, k, v, by rw [← hp y hy]; exact e⟩
  | succ n ih =>
    intro y hy hD
    unfold Dp at hD ⊢
    rw [← hp y hy]
    cases e : h y with
    | none => rw [e] at hD; exact hD
    | some nd => rw [e] at hD; cases nd with
      | tok => trivial
      | node => exact fun k hk => ih k (hc y _ _ _ _ hy e k hk) (hD k hk)
theorem dp_repK {n : Nat} {ks' : List Addr} (e : h p = some (.node d l nm ks)) (hno : ∀ a d l nm ks, h a = some (.node d l nm ks) → ∀ c ∈ ks, c ≠ p) (hsub : ∀ c ∈ ks', c ∈ ks) (hD : Dp h n p) : Dp (repK h p ks') n p := by
  cases n with
  | zero => obtain ⟨_, _, _, e'⟩ := hD; rw [e] at e'; cases e'
  | succ n =>
    unfold Dp at hD ⊢
    rw [e] at hD; rw [repK_p e]
    intro c hc
    exact dp_congr (fun y => y ≠ p) (fun y hy => (repK_o hy).symm) (fun y d l nm ks hy ey c hc => hno _ _ _ _ _ ey c hc) n c (hno _ _ _ _ _ e c (hsub c hc)) (hD c (hsub c hc))
/-- two unlike children exchanged -/
theorem eqv_swap {n k : Nat} {r : Addr} {x y : Addr} (e : h p = some (.node d l nm ks)) (hno : ∀ a d l nm ks, h a = some (.node d l nm ks) → ∀ c ∈ ks, c ≠ p) (hx : ks[k]? = some x) (hy : ks[k + 1]? = some y)
    (heq : eqv g h (n + 1) r p = true) (hne : eqv h h n x y = false) : eqv g (repK h p ((ks.set k y).set (k + 1) x)) (n + 1) r p = false := by
  cases q : eqv g (repK h p ((ks.set k y).set (k + 1) x)) (n + 1) r p with
  | false => rfl
  | true =>
    have hT := eqv_tree heq
    rw [isTree_of e] at hT
    obtain ⟨d', l', nm2, ks2, eg⟩ := node_of hT
    rw [eqv_node eg e, Bool.and_eq_true] at heq
    rw [eqv_node eg (repK_p e), Bool.and_eq_true] at q
    have hk := (List.getElem?_eq_some_iff.mp hx).1
    have hl := allZ_len_eq heq.2
    have h1 : ks2[k]? = some (ks2[k]'(by omega)) := List.getElem?_eq_getElem (by omega)
    have h2 : ((ks.set k y).set (k + 1) x)[k]? = some y := by
      rw [List.getElem?_set_ne (by omega), List.getElem?_set_self hk]
    have a1 := allZ_get heq.2 h1 hx
    have a2 := allZ_get q.2 h1 h2
    have hym := List.mem_of_getElem? hy
    rw [← eqv_congr (fun c => c ≠ p) (fun c hc => (repK_o hc).symm) (fun c d l nm ks hc ec w hw => hno _ _ _ _ _ ec w hw) n _ y (hno _ _ _ _ _ e y hym)] at a2
    rw [eqv_sym] at a1
    have := eqv_trans n _ _ _ a1 a2
    rw [hne] at this; cases this
/-- another number of children -/
theorem eqv_len {n : Nat} {r : Addr} {ks' : List Addr} (e : h p = some (.node d l nm ks)) (heq : eqv g h (n + 1) r p = true) (hl : ks'.length ≠ ks.length) : eqv g (repK h p ks') (n + 1) r p = false := by
  have hT := eqv_tree heq
  rw [isTree_of e] at hT
  obtain ⟨d', l', nm2, ks2, eg⟩ := node_of hT
  rw [eqv_node eg e, Bool.and_eq_true] at heq
  rw [eqv_node eg (repK_p e), allZ_len (by rw [allZ_len_eq heq.2]; exact Ne.symm hl), Bool.and_false]
end
/-- no tree leads to the root -/
theorem Gb.noroot {g : Gf} {as : List Addr} (B : Gb g as) {r : Addr} (hr : as[0]? = some r) : ∀ a d l nm ks, g a = some (.node d l nm ks) → ∀ c ∈ ks, c ≠ r := fun a d l nm ks e c hc q => by
  subst q
  obtain ⟨i, hi⟩ := List.mem_iff_getElem?.mp (B.tr a (isTree_of e))
  obtain ⟨j, hj, hcj⟩ := (B.kid i a d l nm ks hi e c hc).2 (B.ex c (List.mem_of_getElem? hr))
  have := nodup_get B.nd hr hcj
  omega
end PartM6

section PartC27
open PySem PySem.W PyProof.Rows PySem.Calls
set_option maxRecDepth 100000
set_option maxHeartbeats 400000
set_option linter.unusedVariables false

local macro_rules | `(tactic| k_clsL) => `(tactic| first
  | with_reducible assumption
  | (with_reducible show Sg.m (Sg.setL _ _ _) _ = some _; first | with_reducible exact getL_same | (apply getL_skip; with_unfolding_all decide; k_clsL))
  | (with_reducible show Sg.m (Sg.put _ _ _) _ = some _; apply putM; k_clsL)
  | (with_reducible show Sg.m (Sg.del _ _) _ = some _; apply delM; k_clsL)
  | (with_reducible show Sg.m (Sg.setM _ _) _ = some _; apply setMM; k_clsL)
  | (apply viaM; with_reducible assumption; k_clsL)
  | (apply viaE; with_reducible assumption; k_clsL))
local macro_rules | `(tactic| k_offL) => `(tactic| first
  | with_reducible assumption
  | with_reducible exact Ext.rfl
  | (with_reducible show Ext _ (Sg.setL _ _ _); refine Ext.setL ?_; k_offL)
  | (with_reducible show Ext _ (Sg.put _ _ _); refine Ext.put ?_ (by first | with_reducible assumption | with_reducible exact setA (by with_reducible assumption)); k_offL)
  | (with_reducible show Ext _ (Sg.setM _ _); refine Ext.setM ?_; k_offL)
  | (with_reducible refine Ext.tr (by with_reducible assumption) ?_; k_offL)
  | (with_reducible refine Ext.tr2 (by with_reducible assumption) ?_; k_offL))
local macro_rules | `(tactic| k_places) => `(tactic| first
  | with_reducible assumption
  | with_reducible exact putA_same
  | (with_reducible show Sg.at_ (Sg.setL _ _ _) _ = some _; apply setA; k_places)
  | (with_reducible show Sg.at_ (Sg.setM _ _) _ = some _; apply setMA; k_places)
  | (with_reducible show Sg.at_ (Sg.put _ _ _) _ = some _; apply putA_new; with_reducible assumption; k_places)
  | (apply ESt.at_; with_reducible assumption; k_places)
  | (apply Ext.at'; with_reducible assumption; k_places))
local macro_rules | `(tactic| k_subL) => `(tactic| first
  | (with_reducible show W _ _ _ _ (spliced (backTo _ (starEach [] _))) _ _; refine w_items0 ?_)
  | (with_reducible show W _ _ _ _ (spliced (backTo _ (starEach (_ :: _) _))) _ _; refine w_items ?_)
  | (with_reducible show W _ _ _ _ (eval (Expr.Name _ _) _) _ _; first | refine w_local (by with_unfolding_all rfl) (by k_clsL) ?_ | refine w_cell (by with_unfolding_all rfl) (by k_places) ?_ | (with_reducible show W _ _ _ _ (eval (Expr.Name ("Tree" : Str) _) _) _ _; refine w_glob (v := .ref 142) (by assumption) (by kernel_rfl) ?_) | (with_reducible show W _ _ _ _ (eval (Expr.Name ("Token" : Str) _) _) _ _; refine w_glob (v := .ref 45) (by assumption) (by kernel_rfl) ?_))
  | (with_reducible show W _ _ _ _ (eval (Expr.Call (Expr.Name ("isinstance" : Str) _) _ [] _) _) _ _; refine w_callB (n := "isinstance") (by assumption) boot_isi (by kernel_rfl) ?_)
  | (with_reducible show W _ _ _ _ (eval (Expr.Call (Expr.Name ("len" : Str) _) _ [] _) _) _ _; refine w_callB (n := "len") (by assumption) boot_len (by kernel_rfl) ?_)
  | (with_reducible show W _ _ _ _ (eval (Expr.Call (Expr.Name ("min" : Str) _) _ [] _) _) _ _; refine w_callB (n := "min") (by assumption) boot_min (by kernel_rfl) ?_)
  | (with_reducible show W _ _ _ _ (eval (Expr.Call (Expr.Name ("range" : Str) _) _ [] _) _) _ _; refine w_callT (n := "range") (by assumption) boot_range (by kernel_rfl) ?_)
  | (with_reducible show W _ _ _ _ (eval (Expr.Call (Expr.Name ("str" : Str) _) _ [] _) _) _ _; refine w_callT (n := "str") (by assumption) boot_str (by kernel_rfl) ?_)
  | (with_reducible show W _ _ _ _ (eval (Expr.Call (Expr.Name ("list" : Str) _) _ [] _) _) _ _; refine w_callT (n := "list") (by assumption) boot_list (by kernel_rfl) ?_)
  | (with_reducible show W _ _ _ _ (eval (Expr.Call (Expr.Name ("reversed" : Str) _) _ [] _) _) _ _; refine w_callT (n := "reversed") (by assumption) boot_rev (by kernel_rfl) ?_)
  | (with_reducible show W _ _ _ _ (eval (Expr.Call (Expr.Name ("filter" : Str) _) _ [] _) _) _ _; refine w_callT (n := "filter") (by assumption) boot_filter (by kernel_rfl) ?_)
  | (with_reducible show W _ _ _ _ (call (.builtin "len") [.ref _]) _ _; (refine w_len (by k_places) ?_ fun _ => ?_); rotate_left)
  | (with_reducible show W _ _ _ _ (binaryOp .Add (.int _ _) (.int _ _)) _ _; refine w_addI fun _ => ?_)
  | (with_reducible show W _ _ _ _ (binaryOp .Sub (.int _ _) (.int _ _)) _ _; refine w_subI fun _ => ?_)
  | (with_reducible show W _ _ _ _ (compareOp .Eq (.int _ _) (.int _ _)) _ _; refine w_eqI ?_)
  | (with_reducible show W _ _ _ _ (compareOp .NotEq (.int _ _) (.int _ _)) _ _; refine w_neI ?_)
  | (with_reducible show W _ _ _ _ (compareOp .Lt (.int _ _) (.int _ _)) _ _; refine w_ltI ?_)
  | (with_reducible show W _ _ _ _ (compareOp .Eq (.str _ _) (.str _ _)) _ _; refine w_eqS ?_)
  | (with_reducible show W _ _ _ _ (compareOp .NotEq (.bool _) (.bool _)) _ _; refine w_neB ?_)
  | (with_reducible show W _ _ _ _ (unaryOp .USub (.int _ _)) _ _; refine w_negI fun _ => ?_)
  | (with_reducible show W _ _ _ _ (unaryOp .Not _) _ _; refine w_notv ?_)
  | (with_reducible show W _ _ _ _ (eval (Expr.Attribute _ _ _) _) _ _; refine w_attr ?_)
  | (with_reducible show W _ _ _ _ (eval (Expr.List _ _) _) _ _; refine w_list ?_)
  | (with_reducible show W _ _ _ _ (eval (Expr.Tuple _ _ _) _) _ _; refine w_tuple ?_)
  | (with_reducible show W _ _ _ _ (eval (Expr.BinOp _ _ _ _) _) _ _; refine w_binop ?_)
  | (with_reducible show W _ _ _ _ (eval (Expr.Compare _ [_] [_] _) _) _ _; refine w_cmp ?_)
  | (with_reducible show W _ _ _ _ (eval (Expr.IfExp _ _ _ _) _) _ _; refine w_ifexp ?_)
  | (with_reducible show W _ _ _ _ (eval (Expr.Subscript _ _ _) _) _ _; refine w_sub ?_)
  | (with_reducible show W _ _ _ _ (eval (Expr.UnaryOp _ _ _) _) _ _; refine w_unop ?_)
  | (with_reducible show W _ _ _ _ (eval (Expr.Constant .none _ _) _) _ _; refine w_none ?_)
  | (with_reducible show W _ _ _ _ (eval (Expr.Constant (.bool _) _ _) _) _ _; refine w_tf ?_)
  | (with_reducible show W _ _ _ _ (eval (Expr.Constant (.int _) _ _) _) _ _; refine w_int ?_; intro _)
  | (with_reducible show W _ _ _ _ (eval (Expr.Constant (.str _) _ _) _) _ _; refine w_str ?_; intro _)
  | (with_reducible show W _ _ _ _ (execs [] _) _ _; refine w_nil ?_)
  | (with_reducible show W _ _ _ _ (execs (Stmt.Assign [Expr.Name _ _] (Expr.ListComp _ [Comprehension.mk _ _ _ _] _ _) _ :: _) _) _ _; refine w_cons (w_assignComp ?_))
  | (with_reducible show W _ _ _ _ (execs (Stmt.Assign [Expr.Name _ _] _ _ :: _) _) _ _; refine w_consA ?_)
  | (with_reducible show W _ _ _ _ (execs (Stmt.Assign [Expr.Attribute _ _ _] _ _ :: _) _) _ _; refine w_consAttr ?_)
  | (with_reducible show W _ _ _ _ (execs (Stmt.Assign [Expr.Subscript _ _ _] _ _ :: _) _) _ _; refine w_consSub ?_)
  | (with_reducible show W _ _ _ _ (execs (Stmt.If _ _ [] _ :: _) _) _ _; refine w_consIf ?_)
  | (with_reducible show W _ _ _ _ (execs (Stmt.If _ _ _ _ :: _) _) _ _; refine w_consElse ?_)
  | (with_reducible show W _ _ _ _ (execs (Stmt.Return (some _) _ :: _) _) _ _; refine w_consRet ?_)
  | (with_reducible show W _ _ _ _ (execs (Stmt.Break _ :: _) _) _ _; refine w_consBrk ?_)
  | (with_reducible show W _ _ _ _ (execs (Stmt.Continue _ :: _) _) _ _; refine w_consCont ?_)
  | (with_reducible show W _ _ _ _ (execs (Stmt.Expr (Expr.Call (Expr.Attribute _ _ _) [_] [] _) _ :: _) _) _ _; refine w_consApp ?_)
  | (with_reducible show W _ _ _ _ (execs (Stmt.Expr _ _ :: _) _) _ _; refine w_consE ?_)
  | (with_reducible show W _ _ _ _ (isTrue (Expr.UnaryOp .Not _ _) _ _) _ _; refine w_not ?_)
  | (with_reducible show W _ _ _ _ (isTrue (Expr.BoolOp _ _ _) _ _) _ _; refine w_bool ?_)
  | (with_reducible show W _ _ _ _ (allTrue .And [] _) _ _; refine w_andNil ?_)
  | (with_reducible show W _ _ _ _ (allTrue .Or [] _) _ _; refine w_orNil ?_)
  | (with_reducible show W _ _ _ _ (allTrue .And (_ :: _) _) _ _; refine w_and ?_)
  | (with_reducible show W _ _ _ _ (allTrue .Or (_ :: _) _) _ _; refine w_or ?_)
  | (with_reducible show W _ _ _ _ (isTrue (Expr.Compare _ [_] [_] _) _ _) _ _; refine w_tcmp ?_)
  | (with_reducible show W _ _ _ _ (isTrue _ _ _) _ _; refine w_tval ?_)
  | (with_reducible show W _ _ _ _ (storeName _ _ _) _ _; first | refine w_storeL (by with_unfolding_all rfl) ?_ | refine w_storeC (by with_unfolding_all rfl) (by k_places) ?_)
  | (with_reducible show W _ _ _ _ (tests [_] _) _ _; refine w_tests1 ?_)
  | (with_reducible show W _ _ _ _ (tests [] _) _ _; refine w_tests0 ?_)
  | (with_reducible show W _ _ _ _ (eval (Expr.ListComp _ [Comprehension.mk _ _ _ _] _ _) _) _ _; refine w_listcomp ?_)
  | (with_reducible show W _ _ _ _ (truthy (.bool _)) _ _; refine w_truthyB ?_)
  | (with_reducible show thenK _ _ Flow.next _; refine thenK_next ?_)
  | (with_reducible show thenK _ _ Flow.brk _; refine thenK_brk ?_)
  | (with_reducible show thenK _ _ Flow.cont _; refine thenK_cont ?_)
  | (with_reducible show thenK _ _ (Flow.ret _) _; refine thenK_ret ?_)
  | (with_reducible show turnK _ _ _ Flow.next _; refine turnK_next ?_)
  | (with_reducible show turnK _ _ _ Flow.brk _; refine turnK_brk ?_)
  | (with_reducible show turnK _ _ _ Flow.cont _; refine turnK_cont ?_)
  | (with_reducible show turnK _ _ _ (Flow.ret _) _; refine turnK_ret ?_))

/-- what stands all through _law_equal -/
structure EqI (σ : Sg) (l r lt : Addr) (τ : Sg) : Prop where
  ext : Ext σ τ
  s : τ.m "script" = some (.ref l)
  r : τ.m "root" = some (.ref r)
  t : τ.m "tokens" = some (.ref lt)
def QE (σ : Sg) : Flow → Sg → Prop := fun fl τ => fl = .ret (.bool true) ∧ Ext σ τ
/-- the root's own -/
structure RootI (b : Base) (l : Addr) (ns : List Int) (σ₀ σ : Sg) (rs : List Rec) (tk : List TkR) (r : Rec) : Prop where
  scr : ∃ vs : List Value, b.h.IsList l vs.toArray ∧ IntsAre vs ns
  n63 : ns.length ≤ 63
  bld : Bld σ₀ σ (built ns) rs tk
  hr : rs[0]? = some r
theorem RootI.mem {b : Base} {l : Addr} {ns : List Int} {σ₀ σ : Sg} {rs : List Rec} {tk : List TkR} {r : Rec} (h : RootI b l ns σ₀ σ rs tk r) : r ∈ rs := List.mem_of_getElem? h.hr
theorem RootI.gb {b : Base} {l : Addr} {ns : List Int} {σ₀ σ : Sg} {rs : List Rec} {tk : List TkR} {r : Rec} (h : RootI b l ns σ₀ σ rs tk r) : Gb (Gof rs tk) (rs.map (·.a)) := h.bld.gb (BlOk.built ns)
theorem RootI.e {b : Base} {l : Addr} {ns : List Int} {σ₀ σ : Sg} {rs : List Rec} {tk : List TkR} {r : Rec} (h : RootI b l ns σ₀ σ rs tk r) : Gof rs tk r.a = some (.node r.d r.l r.nm r.ks) := h.bld.gof h.mem
theorem len20 {g : Gf} {as : List Addr} (B : Gb g as) : ∀ p d l nm ks, g p = some (.node d l nm ks) → ks.length ≤ 2 ^ 20 := fun p d l nm ks e => by have := B.klen e; omega
theorem room_of {A : Around} {n : Nat} (R : Rm A (n + 1)) : Room A (n + 1) (199 + 1) := R.r.le (by omega) (by omega)

theorem ne_at {σ : Sg} {a b : Addr} {c : Cl} (h : σ.at_ a = some c) (h2 : σ.at_ b = none) : a ≠ b := fun e => by rw [e, h2] at h; cases h
/-- a tree with a tree and a token below; a tree with a tree with a token -/
def gA (x2 x1 xt d2 l2 d1 l1 dt : Addr) : Gf := fun a => if a = x2 then some (.node d2 l2 "a" [x1, xt]) else if a = x1 then some (.node d1 l1 "b" []) else if a = xt then some (.tok dt "X" "0") else none
def gB (x4 x3 xt d4 l4 d3 l3 dt : Addr) : Gf := fun a => if a = x4 then some (.node d4 l4 "a" [x3]) else if a = x3 then some (.node d3 l3 "b" [xt]) else if a = xt then some (.tok dt "X" "0") else none
section
variable {σ : Sg} {x4 x3 x2 x1 xt d4 l4 d3 l3 d2 l2 d1 l1 dt : Addr}
theorem gA_gr (h2 : NdAt σ x2 (.node d2 l2 "a" [x1, xt])) (h1 : NdAt σ x1 (.node d1 l1 "b" [])) (ht : NdAt σ xt (.tok dt "X" "0")) : Gr σ (gA x2 x1 xt d2 l2 d1 l1 dt) := fun a nd e => by
  unfold gA at e
  split at e
  · rename_i q; subst q; cases e; exact h2
  · split at e
    · rename_i q; subst q; cases e; exact h1
    · split at e
      · rename_i q; subst q; cases e; exact ht
      · cases e
theorem gB_gr (h2 : NdAt σ x4 (.node d4 l4 "a" [x3])) (h1 : NdAt σ x3 (.node d3 l3 "b" [xt])) (ht : NdAt σ xt (.tok dt "X" "0")) : Gr σ (gB x4 x3 xt d4 l4 d3 l3 dt) := fun a nd e => by
  unfold gB at e
  split at e
  · rename_i q; subst q; cases e; exact h2
  · split at e
    · rename_i q; subst q; cases e; exact h1
    · split at e
      · rename_i q; subst q; cases e; exact ht
      · cases e
theorem gA2 : gA x2 x1 xt d2 l2 d1 l1 dt x2 = some (.node d2 l2 "a" [x1, xt]) := by unfold gA; rw [if_pos rfl]
theorem gB2 : gB x4 x3 xt d4 l4 d3 l3 dt x4 = some (.node d4 l4 "a" [x3]) := by unfold gB; rw [if_pos rfl]
theorem gA1 (a3 : x1 ≠ x2) : gA x2 x1 xt d2 l2 d1 l1 dt x1 = some (.node d1 l1 "b" []) := by unfold gA; rw [if_neg a3, if_pos rfl]
theorem gB1 (a3 : x3 ≠ x4) : gB x4 x3 xt d4 l4 d3 l3 dt x3 = some (.node d3 l3 "b" [xt]) := by unfold gB; rw [if_neg a3, if_pos rfl]
theorem gA0 (a1 : xt ≠ x1) (a2 : xt ≠ x2) : gA x2 x1 xt d2 l2 d1 l1 dt xt = some (.tok dt "X" "0") := by unfold gA; rw [if_neg a2, if_neg a1, if_pos rfl]
theorem gB0 (a1 : xt ≠ x3) (a2 : xt ≠ x4) : gB x4 x3 xt d4 l4 d3 l3 dt xt = some (.tok dt "X" "0") := by unfold gB; rw [if_neg a2, if_neg a1, if_pos rfl]
theorem gA_dp (a1 : xt ≠ x1) (a2 : xt ≠ x2) (a3 : x1 ≠ x2) : Dp (gA x2 x1 xt d2 l2 d1 l1 dt) (1 + 1) x2 := by
  unfold Dp; rw [gA2]
  intro k hk
  simp at hk
  rcases hk with rfl | rfl
  · unfold Dp; rw [gA1 a3]; intro k hk; cases hk
  · exact Dp.tok (gA0 a1 a2) 1
theorem gB_dp (a1 : xt ≠ x3) (a2 : xt ≠ x4) (a3 : x3 ≠ x4) : Dp (gB x4 x3 xt d4 l4 d3 l3 dt) (1 + 1) x4 := by
  unfold Dp; rw [gB2]
  intro k hk
  simp at hk; subst hk
  unfold Dp; rw [gB1 a3]
  intro k hk
  simp at hk; subst hk
  exact Dp.tok (gB0 a1 a2) 0
theorem gA_len : ∀ p d l nm ks, gA x2 x1 xt d2 l2 d1 l1 dt p = some (.node d l nm ks) → ks.length ≤ 2 ^ 20 := fun p d l nm ks e => by
  unfold gA at e
  split at e
  · cases e; simp
  · split at e
    · cases e; simp
    · split at e <;> cases e
theorem gB_len : ∀ p d l nm ks, gB x4 x3 xt d4 l4 d3 l3 dt p = some (.node d l nm ks) → ks.length ≤ 2 ^ 20 := fun p d l nm ks e => by
  unfold gB at e
  split at e
  · cases e; simp
  · split at e
    · cases e; simp
    · split at e <;> cases e
theorem gAB : eqv (gA x2 x1 xt d2 l2 d1 l1 dt) (gB x4 x3 xt d4 l4 d3 l3 dt) (1 + 1) x2 x4 = false := by
  rw [eqv_node gA2 gB2, allZ_len (by simp), Bool.and_false]
end
theorem putA_data {v v' cv mv : Value} : putA "data" v [("data", v'), ("children", cv), ("_meta", mv)] = ([("data", v), ("children", cv), ("_meta", mv)] : List (Str × Value)) := by unfold putA; rw [if_pos rfl]
theorem RootI.dp {b : Base} {l : Addr} {ns : List Int} {σ₀ σ : Sg} {rs : List Rec} {tk : List TkR} {r : Rec} (h : RootI b l ns σ₀ σ rs tk r) {N : Nat} (hN : 12 ≤ N) : Dp (Gof rs tk) N r.a := h.gb.dp (by have := h.gb.n12; omega) _ _ h.e
/-- a twin of the root -/
theorem twin_root {b : Base} {l : Addr} {ns : List Int} {σ σ' : Sg} {rs : List Rec} {tk : List TkR} {vs : List Value} (hl : b.h.IsList l vs.toArray) (hi : IntsAre vs ns) (hn : ns.length ≤ 63) (X : Bld σ σ' (built ns) rs tk) : ∃ r, RootI b l ns σ σ' rs tk r := by
  have h := (BlOk.built ns).ne
  rw [← X.len] at h
  exact ⟨rs[0], ⟨vs, hl, hi⟩, hn, X, List.getElem?_eq_getElem h⟩
theorem RootI.eq {b : Base} {l : Addr} {ns : List Int} {σ₀ σ σ₀' σ' : Sg} {rs rs' : List Rec} {tk tk' : List TkR} {r r' : Rec} (h : RootI b l ns σ₀ σ rs tk r) (h' : RootI b l ns σ₀' σ' rs' tk' r') {N : Nat} (hN : 12 ≤ N) : eqv (Gof rs tk) (Gof rs' tk') N r.a r'.a = true :=
  eqv_twin h.bld h'.bld N 0 r r' h.hr h'.hr (h.dp hN)
theorem RootI.hr0 {b : Base} {l : Addr} {ns : List Int} {σ₀ σ : Sg} {rs : List Rec} {tk : List TkR} {r : Rec} (h : RootI b l ns σ₀ σ rs tk r) : (rs.map (·.a))[0]? = some r.a := by rw [List.getElem?_map, h.hr]; rfl
theorem len_repK {g : Gf} {p d l : Addr} {nm : Str} {ks ks' : List Addr} {m : Nat} (e : g p = some (.node d l nm ks)) (hl : ks'.length ≤ m) (hg : ∀ p d l nm ks, g p = some (.node d l nm ks) → ks.length ≤ m) : ∀ a d l nm ks, repK g p ks' a = some (.node d l nm ks) → ks.length ≤ m := fun a d' l' nm' ks2 ea => by
  by_cases q : a = p
  · subst q; rw [repK_p e] at ea; cases ea; exact hl
  · rw [repK_o q] at ea; exact hg _ _ _ _ _ ea
theorem len_ren {g : Gf} {p d l : Addr} {nm nm' : Str} {ks : List Addr} {m : Nat} (e : g p = some (.node d l nm ks)) (hg : ∀ p d l nm ks, g p = some (.node d l nm ks) → ks.length ≤ m) : ∀ a d l nm ks, renG g p nm' a = some (.node d l nm ks) → ks.length ≤ m := fun a d' l' nm2 ks2 ea => by
  by_cases q : a = p
  · subst q; rw [renG_p e] at ea; cases ea; exact hg _ _ _ _ _ e
  · rw [renG_o q] at ea; exact hg _ _ _ _ _ ea
theorem ren_some {g : Gf} {p a : Addr} {nm' : Str} {nd : Nd} (e : g a = some nd) : ∃ nd', renG g p nm' a = some nd' := by
  by_cases q : a = p
  · subst q
    cases nd with
    | node => exact ⟨_, renG_p e⟩
    | tok => exact ⟨_, by unfold renG; rw [if_pos rfl, e]⟩
  · exact ⟨nd, by rw [renG_o q]; exact e⟩
theorem eq_p3 {b : Base} (G : Glb b) {N : Nat} (hN : 12 ≤ N) {A : Around} {F : Fs} {L l lt : Addr} {ns : List Int} {σ₀ σ τ : Sg} {rs : List Rec} {tk : List TkR} {r : Rec} {cs : List (Str × Addr)} {body : List Stmt} (hb : fEqual.1.body = .stmts body)
    (R : Rm A (N + 10)) (hF : Frs A F L) (H : RootI b l ns σ₀ σ rs tk r) (I : EqI σ l r.a lt τ) : W b A F L (execs (body.drop 9) (fnEnv fEqual.1 L cs 200)) τ (QE σ) := by
  have hb' := FuncBody.stmts.inj (show FuncBody.stmts _ = FuncBody.stmts body from hb)
  subst hb'
  simp only [List.drop_succ_cons, List.drop_zero]
  obtain ⟨hE, hs, hr, ht⟩ := I
  obtain ⟨vs, hl, hi⟩ := H.scr
  obtain ⟨M, rfl⟩ : ∃ M, N = M + 1 := ⟨N - 1, by omega⟩
  repeat k_subL
  refine w_call0 (f := 45) G (by kernel_rfl) ?_
  repeat k_subL
  refine WC.call (WC.mono (c_Token G (room_of (R.le (m := M + 6) (by omega)))) fun v τ1 ⟨xt, dt, hv, hxt, hdt, It, hE1⟩ => ?_)
  subst hv
  obtain ⟨It1, It2⟩ := It
  repeat k_subL
  refine w_call0 (f := 142) G (by kernel_rfl) ?_
  repeat k_subL
  refine w_call0 (f := 142) G (by kernel_rfl) ?_
  repeat k_subL
  refine w_newList (by rw [sizeLine_eq]; simp) fun l1 hl1 => ?_
  repeat k_subL
  refine WC.call (WC.mono (c_Tree G (room_of (R.le (m := M + 6) (by omega)))) fun v τ2 ⟨x1, d1, hv, hx1, hd1, I1, hE2⟩ => ?_)
  subst hv
  obtain ⟨I11, I12⟩ := I1
  repeat k_subL
  refine w_newList (by rw [sizeLine_eq]; simp) fun l2 hl2 => ?_
  repeat k_subL
  refine WC.call (WC.mono (c_Tree G (room_of (R.le (m := M + 6) (by omega)))) fun v τ3 ⟨x2, d2, hv, hx2, hd2, I2, hE3⟩ => ?_)
  subst hv
  obtain ⟨I21, I22⟩ := I2
  have nt1 : NdAt τ1 xt (.tok dt "X" "0") := ⟨_, _, It1, It2⟩
  have ht1 : τ1.m "token" = none ∨ True := .inr trivial
  have n1 : NdAt τ2 x1 (.node d1 l1 "b" []) := ⟨⟨_, I11, I12⟩, (show τ2.at_ l1 = some (.lst []) by k_places)⟩
  have n2 : NdAt τ3 x2 (.node d2 l2 "a" [x1, xt]) := ⟨⟨_, I21, I22⟩, (show τ3.at_ l2 = some (.lst [.ref x1, .ref xt]) by k_places)⟩
  have e13 : Ext τ1 τ3 := by k_offL
  have hm3 : τ3.m "token" = some (.ref xt) := by k_clsL
  have hs3 : τ3.m "script" = some (.ref l) := by k_clsL
  have hr3 : τ3.m "root" = some (.ref r.a) := by k_clsL
  have e03 : Ext σ τ3 := by k_offL
  have e23 : Ext τ2 τ3 := by k_offL
  have a1 : xt ≠ x1 := ne_at (c := .obj (instObj 45 dt)) (by k_places) hx1
  have a2 : xt ≠ x2 := ne_at (c := .obj (instObj 45 dt)) (by k_places) hx2
  have a3 : x1 ≠ x2 := ne_at (c := .obj (instObj 142 d1)) (by k_places) hx2
  have nt3 := nt1.ext e13
  have n13 := n1.ext e23
  obtain ⟨⟨_, I23, I24⟩, I25⟩ := n2
  obtain ⟨_, _, It3, It4⟩ := nt3
  clear It1 It2 I11 I12 I21 I22 n1 nt1 e13 e23 hE1 hE2 hE3 hx1 hx2 hd1 hd2 hl1 hl2 hxt hdt
  refine w_call0 (f := 142) G (by kernel_rfl) ?_
  repeat k_subL
  refine w_call0 (f := 142) G (by kernel_rfl) ?_
  repeat k_subL
  refine w_newList (by rw [sizeLine_eq]; simp) fun l3 hl3 => ?_
  repeat k_subL
  refine WC.call (WC.mono (c_Tree G (room_of (R.le (m := M + 6) (by omega)))) fun v τ4 ⟨x3, d3, hv, hx3, hd3, I3, hE4⟩ => ?_)
  subst hv
  obtain ⟨I31, I32⟩ := I3
  have a4 : xt ≠ x3 := ne_at (c := .obj (instObj 45 dt)) (by k_places) hx3
  have n3 : NdAt τ4 x3 (.node d3 l3 "b" [xt]) := ⟨⟨_, I31, I32⟩, (show τ4.at_ l3 = some (.lst [.ref xt]) by k_places)⟩
  repeat k_subL
  refine w_newList (by rw [sizeLine_eq]; simp) fun l4 hl4 => ?_
  repeat k_subL
  refine WC.call (WC.mono (c_Tree G (room_of (R.le (m := M + 6) (by omega)))) fun v τ5 ⟨x4, d4, hv, hx4, hd4, I4, hE5⟩ => ?_)
  subst hv
  obtain ⟨I41, I42⟩ := I4
  have a5 : xt ≠ x4 := ne_at (c := .obj (instObj 45 dt)) (by k_places) hx4
  have a6 : x3 ≠ x4 := ne_at (c := .obj (instObj 142 d3)) (by k_places) hx4
  have n4 : NdAt τ5 x4 (.node d4 l4 "a" [x3]) := ⟨⟨_, I41, I42⟩, (show τ5.at_ l4 = some (.lst [.ref x3]) by k_places)⟩
  have e45 : Ext τ4 τ5 := by k_offL
  have e35 : Ext τ3 τ5 := by k_offL
  have nt5 : NdAt τ5 xt (.tok dt "X" "0") := ⟨_, _, e35.at_ _ _ It3, e35.at_ _ _ It4⟩
  have n25 : NdAt τ5 x2 (.node d2 l2 "a" [x1, xt]) := ⟨⟨_, e35.at_ _ _ I23, e35.at_ _ _ I24⟩, e35.at_ _ _ I25⟩
  have n15 := n13.ext e35
  have n35 := n3.ext e45
  have hs5 : τ5.m "script" = some (.ref l) := by k_clsL
  have hr5 : τ5.m "root" = some (.ref r.a) := by k_clsL
  have e05 : Ext σ τ5 := by k_offL
  clear It3 It4 I23 I24 I25 n13 n3 I31 I32 I41 I42 e45 e35 hE4 hE5 hx3 hx4 hd3 hd4 hl3 hl4 e03 hs3 hr3 hm3
  repeat k_subL
  refine w_eqT (g := gA x2 x1 xt d2 l2 d1 l1 dt) (h := gB x4 x3 xt d4 l4 d3 l3 dt) (n := 1 + 1) G (R.le (by omega)) ⟨gA_gr n25 n15 nt5, gB_gr n4 n35 nt5, gA_dp a1 a2 a3, gB_dp a4 a5 a6, gA2, gB2, hF, gA_len, gB_len⟩ fun τ6 hE6 => ?_
  rw [gAB]
  repeat k_subL
  refine ⟨fun hx => (nomatch hx), fun _ => ?_⟩
  have hs6 : τ6.m "script" = some (.ref l) := by k_clsL
  have hr6 : τ6.m "root" = some (.ref r.a) := by k_clsL
  have e06 : Ext σ τ6 := by k_offL
  clear hE6 n25 n15 nt5 n4 n35 a1 a2 a3 a4 a5 a6 e05 hs5 hr5
  repeat k_subL
  refine w_call0 (f := 153) G (by kernel_rfl) ?_
  repeat k_subL
  refine WC.call (WC.mono (c_built G hl hi H.n63 (R.le (m := M + 6) (by omega))) fun v τ7 ⟨lo, rs2, tk2, hv, hlo0, hsep, hlo, X2, hE7⟩ => ?_)
  subst hv
  obtain ⟨q2, H2⟩ := twin_root hl hi H.n63 X2
  rcases snoc_or rs2 with rfl | ⟨rs0, q, rfl⟩
  · have := H2.hr; simp at this
  have hq : q ∈ rs0 ++ [q] := by simp
  have hlo' : τ7.at_ lo = some (.lst ((rs0.map (·.a)).map .ref ++ [.ref q.a])) := by simpa using hlo
  have hzl : ((rs0.map (·.a)).map Value.ref).length < 2 ^ 62 := by
    have := H2.gb.n12; simp at this ⊢; omega
  obtain ⟨⟨tq, J1, J2⟩, J3⟩ := X2.at_ q hq
  have hs7 : τ7.m "script" = some (.ref l) := by k_clsL
  have hr7 : τ7.m "root" = some (.ref r.a) := by k_clsL
  have e07 : Ext σ τ7 := by k_offL
  have hqd : σ.at_ q.d = none := Ext.back e06 (X2.new q hq).2.1
  have hloσ : σ.at_ lo = none := Ext.back e06 hlo0
  repeat k_subL
  refine w_itemNeg (xs := (rs0.map (·.a)).map .ref) (v := .ref q.a) (setA hlo') hzl ?_
  refine w_setAttr (name := "data") (d := q.d) G (cls142 b) ⟨setA J1, setA J2⟩ (by kernel_rfl) (by simp) ?_
  rw [putA_data]
  have hne : lo ≠ q.d := fun e => by rw [e, J2] at hlo; cases hlo
  generalize hτ8 : Sg.put _ q.d _ = τ8
  have e08 : Ext σ τ8 := by rw [← hτ8]; exact Ext.putN (by k_offL) hqd
  have hs8 : τ8.m "script" = some (.ref l) := by rw [← hτ8]; k_clsL
  have hr8 : τ8.m "root" = some (.ref r.a) := by rw [← hτ8]; k_clsL
  have ho8 : τ8.m "other" = some (.ref lo) := by rw [← hτ8]; k_clsL
  have hlo8 : τ8.at_ lo = some (.lst (((rs0 ++ [q]).map (·.a)).map .ref)) := by rw [← hτ8]; exact putA_ne hne (setA hlo)
  have hG8 : Gr τ8 (renG (Gof (rs0 ++ [q]) tk2) q.a "z") := by
    rw [← hτ8]
    exact gr_ren (σ := τ7.setL "other" (.ref lo)) (X2.gr.ext (Ext.setL Ext.rfl)) H2.gb.sep (X2.gof hq) Ext.rfl
  clear hτ8 J1 J2 J3 hlo' hE7 hs7 hr7 e07 hs6 hr6 e06 hlo hlo0
  repeat k_subL
  refine w_call0 (f := 153) G (by kernel_rfl) ?_
  repeat k_subL
  refine WC.call (WC.mono (c_built G hl hi H.n63 (R.le (m := M + 6) (by omega))) fun v τ9 ⟨ll, rs3, tk3, hv, hll0, _, hll, X3, hE9⟩ => ?_)
  subst hv
  obtain ⟨q3, H3⟩ := twin_root hl hi H.n63 X3
  repeat k_subL
  refine w_item (k := 0) (v := .ref q3.a) hll (by simp [H3.hr]) (by have := H3.gb.n12; simp at this ⊢; omega) ?_
  refine w_storeL (by with_unfolding_all rfl) ?_
  have hs9 : (τ9.setL "less" (.ref q3.a)).m "script" = some (.ref l) := by k_clsL
  have hr9 : (τ9.setL "less" (.ref q3.a)).m "root" = some (.ref r.a) := by k_clsL
  have ho9 : (τ9.setL "less" (.ref q3.a)).m "other" = some (.ref lo) := by k_clsL
  have hl9 : (τ9.setL "less" (.ref q3.a)).m "less" = some (.ref q3.a) := by k_clsL
  have e89 : Ext τ8 (τ9.setL "less" (.ref q3.a)) := by k_offL
  have e09 : Ext σ (τ9.setL "less" (.ref q3.a)) := by k_offL
  have hX9 : Bld τ8 (τ9.setL "less" (.ref q3.a)) (built ns) rs3 tk3 := X3.ext (Ext.setL Ext.rfl)
  generalize (τ9.setL "less" (.ref q3.a)) = τA at hs9 hr9 ho9 hl9 e89 e09 hX9 ⊢
  have eσ8 := e08
  clear e08 hs8 hr8 ho8 hE9 hll
  have hGA := hG8.ext e89
  have hloA := e89.at_ _ _ hlo8
  have hl3 : σ.at_ q3.l = none := Ext.back (show Ext σ τ8 from eσ8) (X3.new q3 H3.mem).2.2
  have hl3o : q3.l ≠ lo := fun e => by have := (X3.new q3 H3.mem).2.2; rw [e, hlo8] at this; cases this
  refine w_consIfP (fun τ => Ext σ τ ∧ τ.m "root" = some (.ref r.a) ∧ τ.m "other" = some (.ref lo) ∧ Gr τ (renG (Gof (rs0 ++ [q]) tk2) q.a "z") ∧ τ.at_ lo = some (.lst (((rs0 ++ [q]).map (·.a)).map .ref))) ?_ ?_
  · repeat k_subL
    refine w_children G (hX9.gr _ _ H3.e) ?_
    repeat k_subL
    refine w_newList (by rw [sizeLine_eq]; simp) fun le hle => ?_
    repeat k_subL
    have hgr3 := (hX9.gr.ext (Ext.new (c := .lst []) hle))
    refine w_ne0 (by have := R.r.units; omega) (hgr3 _ _ H3.e).2 putA_same ?_
    repeat k_subL
    refine ⟨fun ht => ?_, fun hf => ⟨e09.put hle, hr9, ho9, hGA.ext (Ext.new hle), putA_new hle hloA⟩⟩
    rcases snoc_or q3.ks with hk | ⟨k0, c, hk⟩
    · rw [hk] at ht; simp at ht
    refine w_consD (w_callM ?_)
    repeat k_subL
    refine w_children G (hgr3 _ _ H3.e) ?_
    have hkl : (τA.put le (.lst [])).at_ q3.l = some (.lst (k0.map .ref ++ [.ref c])) := by
      have := (hgr3 _ _ H3.e).2; rw [hk] at this; simpa using this
    refine w_gmPop hkl (w_cwB ?_)
    repeat k_subL
    have hk11 : k0.length ≤ 10 := by have := H3.gb.klen H3.e; rw [hk] at this; simp at this; exact this
    refine w_pop hkl (by rw [sizeLine_eq]; simp only [List.length_map]; omega) ?_
    have hGC : Gr ((τA.put le (.lst [])).put q3.l (.lst (k0.map .ref))) (repK (Gof rs3 tk3) q3.a k0) := gr_repK hgr3 H3.gb.sep H3.e Ext.rfl
    have eC : Ext σ ((τA.put le (.lst [])).put q3.l (.lst (k0.map .ref))) := Ext.putN (e09.put hle) hl3
    have hrC : ((τA.put le (.lst [])).put q3.l (.lst (k0.map .ref))).m "root" = some (.ref r.a) := hr9
    have hoC : ((τA.put le (.lst [])).put q3.l (.lst (k0.map .ref))).m "other" = some (.ref lo) := ho9
    have hlC : ((τA.put le (.lst [])).put q3.l (.lst (k0.map .ref))).m "less" = some (.ref q3.a) := hl9
    have hloC : ((τA.put le (.lst [])).put q3.l (.lst (k0.map .ref))).at_ lo = some (.lst (((rs0 ++ [q]).map (·.a)).map .ref)) := putA_ne (Ne.symm hl3o) (putA_new hle hloA)
    have hGoC : Gr ((τA.put le (.lst [])).put q3.l (.lst (k0.map .ref))) (renG (Gof (rs0 ++ [q]) tk2) q.a "z") := by
      intro a nd ha
      have h8 := hG8 a nd ha
      have hnew := (X3.new q3 H3.mem).2.2
      have keep : ∀ y c, τ8.at_ y = some c → ((τA.put le (.lst [])).put q3.l (.lst (k0.map .ref))).at_ y = some c := fun y c e => putA_ne (fun q => by rw [q, hnew] at e; cases e) (putA_new hle (e89.at_ _ _ e))
      cases nd with
      | node d l nm ks => obtain ⟨⟨t, h1, h2⟩, h3⟩ := h8; exact ⟨⟨t, keep _ _ h1, keep _ _ h2⟩, keep _ _ h3⟩
      | tok d k v => obtain ⟨t, u, h1, h2⟩ := h8; exact ⟨t, u, keep _ _ h1, keep _ _ h2⟩
    generalize ((τA.put le (.lst [])).put q3.l (.lst (k0.map .ref))) = τC at hGC eC hrC hoC hlC hloC hGoC ⊢
    repeat k_subL
    refine w_eqT (g := Gof rs tk) (h := repK (Gof rs3 tk3) q3.a k0) (n := M + 1) G (R.le (by omega)) ⟨H.bld.gr.ext eC, hGC, H.dp hN, dp_repK H3.e (H3.gb.noroot H3.hr0) (fun c hc => by rw [hk]; simp [hc]) (H3.dp hN), H.e, repK_p H3.e, hF, len20 H.gb, len_repK H3.e (by omega) (len20 H3.gb)⟩ fun τD hED => ?_
    rw [eqv_len H3.e (H.eq H3 hN) (by rw [hk]; simp)]
    repeat k_subL
    refine ⟨fun hx => (nomatch hx), fun _ => ?_⟩
    repeat k_subL
    exact ⟨eC.trans hED.1, by k_clsL, by k_clsL, hGoC.ext hED.1, hED.1.at_ _ _ hloC⟩
  · rintro τB ⟨eB, hrB, hoB, hGB, hloB⟩
    repeat k_subL
    refine w_item (k := 0) (v := .ref q2.a) hloB (by rw [List.getElem?_map, H2.hr0]; rfl) (by have := H2.gb.n12; simp at this ⊢; omega) ?_
    obtain ⟨nd2, hnd2⟩ := ren_some (p := q.a) (nm' := "z") H2.e
    refine w_eqT (g := Gof rs tk) (h := renG (Gof (rs0 ++ [q]) tk2) q.a "z") (n := M + 1) G (R.le (by omega)) ⟨H.bld.gr.ext eB, hGB, H.dp hN, dp_ren (X2.gof hq) _ _ (H2.dp hN), H.e, hnd2, hF, len20 H.gb, len_ren (X2.gof hq) (len20 H2.gb)⟩ fun τD hED => ?_
    rw [eqv_ren H.gb.nms (X2.gof hq) (H2.gb.down_all (by have := H2.gb.n12; omega) H2.hr0 _ (List.mem_map.mpr ⟨q, hq, rfl⟩))]
    repeat k_subL
    exact ⟨rfl, eB.trans hED.1⟩
end PartC27

section PartC28
open PySem PySem.W PyProof.Rows PySem.Calls
set_option maxRecDepth 100000
set_option maxHeartbeats 400000
set_option linter.unusedVariables false

local macro_rules | `(tactic| k_clsL) => `(tactic| first
  | with_reducible assumption
  | (with_reducible show Sg.m (Sg.setL _ _ _) _ = some _; first | with_reducible exact getL_same | (apply getL_skip; with_unfolding_all decide; k_clsL))
  | (with_reducible show Sg.m (Sg.put _ _ _) _ = some _; apply putM; k_clsL)
  | (with_reducible show Sg.m (Sg.del _ _) _ = some _; apply delM; k_clsL)
  | (with_reducible show Sg.m (Sg.setM _ _) _ = some _; apply setMM; k_clsL)
  | (apply viaM; with_reducible assumption; k_clsL)
  | (apply viaE; with_reducible assumption; k_clsL))
local macro_rules | `(tactic| k_offL) => `(tactic| first
  | with_reducible assumption
  | with_reducible exact Ext.rfl
  | (with_reducible show Ext _ (Sg.setL _ _ _); refine Ext.setL ?_; k_offL)
  | (with_reducible show Ext _ (Sg.put _ _ _); refine Ext.put ?_ (by first | with_reducible assumption | with_reducible exact setA (by with_reducible assumption)); k_offL)
  | (with_reducible show Ext _ (Sg.setM _ _); refine Ext.setM ?_; k_offL)
  | (with_reducible refine Ext.tr (by with_reducible assumption) ?_; k_offL)
  | (with_reducible refine Ext.tr2 (by with_reducible assumption) ?_; k_offL))
local macro_rules | `(tactic| k_places) => `(tactic| first
  | with_reducible assumption
  | with_reducible exact putA_same
  | (with_reducible show Sg.at_ (Sg.setL _ _ _) _ = some _; apply setA; k_places)
  | (with_reducible show Sg.at_ (Sg.setM _ _) _ = some _; apply setMA; k_places)
  | (with_reducible show Sg.at_ (Sg.put _ _ _) _ = some _; apply putA_new; with_reducible assumption; k_places)
  | (apply ESt.at_; with_reducible assumption; k_places)
  | (apply Ext.at'; with_reducible assumption; k_places))
local macro_rules | `(tactic| k_subL) => `(tactic| first
  | (with_reducible show W _ _ _ _ (spliced (backTo _ (starEach [] _))) _ _; refine w_items0 ?_)
  | (with_reducible show W _ _ _ _ (spliced (backTo _ (starEach (_ :: _) _))) _ _; refine w_items ?_)
  | (with_reducible show W _ _ _ _ (eval (Expr.Name _ _) _) _ _; first | refine w_local (by with_unfolding_all rfl) (by k_clsL) ?_ | refine w_cell (by with_unfolding_all rfl) (by k_places) ?_ | (with_reducible show W _ _ _ _ (eval (Expr.Name ("Tree" : Str) _) _) _ _; refine w_glob (v := .ref 142) (by assumption) (by kernel_rfl) ?_) | (with_reducible show W _ _ _ _ (eval (Expr.Name ("Token" : Str) _) _) _ _; refine w_glob (v := .ref 45) (by assumption) (by kernel_rfl) ?_))
  | (with_reducible show W _ _ _ _ (eval (Expr.Call (Expr.Name ("isinstance" : Str) _) _ [] _) _) _ _; refine w_callB (n := "isinstance") (by assumption) boot_isi (by kernel_rfl) ?_)
  | (with_reducible show W _ _ _ _ (eval (Expr.Call (Expr.Name ("len" : Str) _) _ [] _) _) _ _; refine w_callB (n := "len") (by assumption) boot_len (by kernel_rfl) ?_)
  | (with_reducible show W _ _ _ _ (eval (Expr.Call (Expr.Name ("min" : Str) _) _ [] _) _) _ _; refine w_callB (n := "min") (by assumption) boot_min (by kernel_rfl) ?_)
  | (with_reducible show W _ _ _ _ (eval (Expr.Call (Expr.Name ("range" : Str) _) _ [] _) _) _ _; refine w_callT (n := "range") (by assumption) boot_range (by kernel_rfl) ?_)
  | (with_reducible show W _ _ _ _ (eval (Expr.Call (Expr.Name ("str" : Str) _) _ [] _) _) _ _; refine w_callT (n := "str") (by assumption) boot_str (by kernel_rfl) ?_)
  | (with_reducible show W _ _ _ _ (eval (Expr.Call (Expr.Name ("list" : Str) _) _ [] _) _) _ _; refine w_callT (n := "list") (by assumption) boot_list (by kernel_rfl) ?_)
  | (with_reducible show W _ _ _ _ (eval (Expr.Call (Expr.Name ("reversed" : Str) _) _ [] _) _) _ _; refine w_callT (n := "reversed") (by assumption) boot_rev (by kernel_rfl) ?_)
  | (with_reducible show W _ _ _ _ (eval (Expr.Call (Expr.Name ("filter" : Str) _) _ [] _) _) _ _; refine w_callT (n := "filter") (by assumption) boot_filter (by kernel_rfl) ?_)
  | (with_reducible show W _ _ _ _ (call (.builtin "len") [.ref _]) _ _; (refine w_len (by k_places) ?_ fun _ => ?_); rotate_left)
  | (with_reducible show W _ _ _ _ (binaryOp .Add (.int _ _) (.int _ _)) _ _; refine w_addI fun _ => ?_)
  | (with_reducible show W _ _ _ _ (binaryOp .Sub (.int _ _) (.int _ _)) _ _; refine w_subI fun _ => ?_)
  | (with_reducible show W _ _ _ _ (compareOp .Eq (.int _ _) (.int _ _)) _ _; refine w_eqI ?_)
  | (with_reducible show W _ _ _ _ (compareOp .NotEq (.int _ _) (.int _ _)) _ _; refine w_neI ?_)
  | (with_reducible show W _ _ _ _ (compareOp .Lt (.int _ _) (.int _ _)) _ _; refine w_ltI ?_)
  | (with_reducible show W _ _ _ _ (compareOp .Eq (.str _ _) (.str _ _)) _ _; refine w_eqS ?_)
  | (with_reducible show W _ _ _ _ (compareOp .NotEq (.bool _) (.bool _)) _ _; refine w_neB ?_)
  | (with_reducible show W _ _ _ _ (unaryOp .USub (.int _ _)) _ _; refine w_negI fun _ => ?_)
  | (with_reducible show W _ _ _ _ (unaryOp .Not _) _ _; refine w_notv ?_)
  | (with_reducible show W _ _ _ _ (eval (Expr.Attribute _ _ _) _) _ _; refine w_attr ?_)
  | (with_reducible show W _ _ _ _ (eval (Expr.List _ _) _) _ _; refine w_list ?_)
  | (with_reducible show W _ _ _ _ (eval (Expr.Tuple _ _ _) _) _ _; refine w_tuple ?_)
  | (with_reducible show W _ _ _ _ (eval (Expr.BinOp _ _ _ _) _) _ _; refine w_binop ?_)
  | (with_reducible show W _ _ _ _ (eval (Expr.Compare _ [_] [_] _) _) _ _; refine w_cmp ?_)
  | (with_reducible show W _ _ _ _ (eval (Expr.IfExp _ _ _ _) _) _ _; refine w_ifexp ?_)
  | (with_reducible show W _ _ _ _ (eval (Expr.Subscript _ _ _) _) _ _; refine w_sub ?_)
  | (with_reducible show W _ _ _ _ (eval (Expr.UnaryOp _ _ _) _) _ _; refine w_unop ?_)
  | (with_reducible show W _ _ _ _ (eval (Expr.Constant .none _ _) _) _ _; refine w_none ?_)
  | (with_reducible show W _ _ _ _ (eval (Expr.Constant (.bool _) _ _) _) _ _; refine w_tf ?_)
  | (with_reducible show W _ _ _ _ (eval (Expr.Constant (.int _) _ _) _) _ _; refine w_int ?_; intro _)
  | (with_reducible show W _ _ _ _ (eval (Expr.Constant (.str _) _ _) _) _ _; refine w_str ?_; intro _)
  | (with_reducible show W _ _ _ _ (execs [] _) _ _; refine w_nil ?_)
  | (with_reducible show W _ _ _ _ (execs (Stmt.Assign [Expr.Name _ _] (Expr.ListComp _ [Comprehension.mk _ _ _ _] _ _) _ :: _) _) _ _; refine w_cons (w_assignComp ?_))
  | (with_reducible show W _ _ _ _ (execs (Stmt.Assign [Expr.Name _ _] _ _ :: _) _) _ _; refine w_consA ?_)
  | (with_reducible show W _ _ _ _ (execs (Stmt.Assign [Expr.Attribute _ _ _] _ _ :: _) _) _ _; refine w_consAttr ?_)
  | (with_reducible show W _ _ _ _ (execs (Stmt.Assign [Expr.Subscript _ _ _] _ _ :: _) _) _ _; refine w_consSub ?_)
  | (with_reducible show W _ _ _ _ (execs (Stmt.If _ _ [] _ :: _) _) _ _; refine w_consIf ?_)
  | (with_reducible show W _ _ _ _ (execs (Stmt.If _ _ _ _ :: _) _) _ _; refine w_consElse ?_)
  | (with_reducible show W _ _ _ _ (execs (Stmt.Return (some _) _ :: _) _) _ _; refine w_consRet ?_)
  | (with_reducible show W _ _ _ _ (execs (Stmt.Break _ :: _) _) _ _; refine w_consBrk ?_)
  | (with_reducible show W _ _ _ _ (execs (Stmt.Continue _ :: _) _) _ _; refine w_consCont ?_)
  | (with_reducible show W _ _ _ _ (execs (Stmt.Expr (Expr.Call (Expr.Attribute _ _ _) [_] [] _) _ :: _) _) _ _; refine w_consApp ?_)
  | (with_reducible show W _ _ _ _ (execs (Stmt.Expr _ _ :: _) _) _ _; refine w_consE ?_)
  | (with_reducible show W _ _ _ _ (isTrue (Expr.UnaryOp .Not _ _) _ _) _ _; refine w_not ?_)
  | (with_reducible show W _ _ _ _ (isTrue (Expr.BoolOp _ _ _) _ _) _ _; refine w_bool ?_)
  | (with_reducible show W _ _ _ _ (allTrue .And [] _) _ _; refine w_andNil ?_)
  | (with_reducible show W _ _ _ _ (allTrue .Or [] _) _ _; refine w_orNil ?_)
  | (with_reducible show W _ _ _ _ (allTrue .And (_ :: _) _) _ _; refine w_and ?_)
  | (with_reducible show W _ _ _ _ (allTrue .Or (_ :: _) _) _ _; refine w_or ?_)
  | (with_reducible show W _ _ _ _ (isTrue (Expr.Compare _ [_] [_] _) _ _) _ _; refine w_tcmp ?_)
  | (with_reducible show W _ _ _ _ (isTrue _ _ _) _ _; refine w_tval ?_)
  | (with_reducible show W _ _ _ _ (storeName _ _ _) _ _; first | refine w_storeL (by with_unfolding_all rfl) ?_ | refine w_storeC (by with_unfolding_all rfl) (by k_places) ?_)
  | (with_reducible show W _ _ _ _ (tests [_] _) _ _; refine w_tests1 ?_)
  | (with_reducible show W _ _ _ _ (tests [] _) _ _; refine w_tests0 ?_)
  | (with_reducible show W _ _ _ _ (eval (Expr.ListComp _ [Comprehension.mk _ _ _ _] _ _) _) _ _; refine w_listcomp ?_)
  | (with_reducible show W _ _ _ _ (truthy (.bool _)) _ _; refine w_truthyB ?_)
  | (with_reducible show thenK _ _ Flow.next _; refine thenK_next ?_)
  | (with_reducible show thenK _ _ Flow.brk _; refine thenK_brk ?_)
  | (with_reducible show thenK _ _ Flow.cont _; refine thenK_cont ?_)
  | (with_reducible show thenK _ _ (Flow.ret _) _; refine thenK_ret ?_)
  | (with_reducible show turnK _ _ _ Flow.next _; refine turnK_next ?_)
  | (with_reducible show turnK _ _ _ Flow.brk _; refine turnK_brk ?_)
  | (with_reducible show turnK _ _ _ Flow.cont _; refine turnK_cont ?_)
  | (with_reducible show turnK _ _ _ (Flow.ret _) _; refine turnK_ret ?_))

theorem Frs.app {A : Around} {F Fa : Fs} {L : Addr} (h : Frs A F L) : Frs A (Fa ++ F) L := by
  obtain ⟨envs, h1, h2⟩ := h
  refine ⟨envs, h1, fun e he => ?_⟩
  obtain ⟨a, l, b, c⟩ := h2 e he
  refine ⟨a, l, b, c.imp id fun ⟨m, hm⟩ => ⟨m, List.mem_append_right _ hm⟩⟩
theorem EqI.of {σ : Sg} {l r lt : Addr} {τ τ' : Sg} (h : EqI σ l r lt τ) (e : Ext σ τ') (hm : τ'.m = τ.m) : EqI σ l r lt τ' := ⟨e, by rw [hm]; exact h.s, by rw [hm]; exact h.r, by rw [hm]; exact h.t⟩

theorem repK_repK {g : Gf} {p d l : Addr} {nm : Str} {ks k1 k2 : List Addr} (e : g p = some (.node d l nm ks)) : repK (repK g p k1) p k2 = repK g p k2 := by
  funext a
  by_cases q : a = p
  · subst q; rw [repK_p (repK_p e), repK_p e]
  · rw [repK_o q, repK_o q, repK_o q]
theorem set_ref {ks : List Addr} {i : Nat} {y : Addr} : (ks.map Value.ref).set i (.ref y) = (ks.set i y).map .ref := by rw [List.map_set]
theorem eq_p2 {b : Base} (G : Glb b) {N : Nat} (hN : 12 ≤ N) {A : Around} {F : Fs} {L l lt : Addr} {ns : List Int} {σ₀ σ τ : Sg} {rs : List Rec} {tk : List TkR} {r : Rec} {cs : List (Str × Addr)} {body : List Stmt} (hb : fEqual.1.body = .stmts body)
    (R : Rm A (N + 10)) (hF : Frs A F L) (H : RootI b l ns σ₀ σ rs tk r) (I : EqI σ l r.a lt τ) : W b A F L (execs (body.drop 7) (fnEnv fEqual.1 L cs 200)) τ (QE σ) := by
  have P3 : ∀ τ, EqI σ l r.a lt τ → W b A F L (execs (body.drop 9) (fnEnv fEqual.1 L cs 200)) τ (QE σ) := fun τ I => eq_p3 G hN hb R hF H I
  have hb' := FuncBody.stmts.inj (show FuncBody.stmts _ = FuncBody.stmts body from hb)
  subst hb'
  simp only [List.drop_succ_cons, List.drop_zero] at P3 ⊢
  have hI := I
  obtain ⟨hE, hs, hr, ht⟩ := I
  obtain ⟨vs, hl, hi⟩ := H.scr
  obtain ⟨M, rfl⟩ : ∃ M, N = M + 1 := ⟨N - 1, by omega⟩
  repeat k_subL
  refine w_call0 (f := 153) G (by kernel_rfl) ?_
  repeat k_subL
  refine WC.call (WC.mono (c_built G hl hi H.n63 (R.le (m := M + 6) (by omega))) fun v τ1 ⟨ll, rs3, tk3, hv, hll0, _, hll, X3, hE9⟩ => ?_)
  subst hv
  obtain ⟨q, H3⟩ := twin_root hl hi H.n63 X3
  repeat k_subL
  refine w_item (k := 0) (v := .ref q.a) hll (by rw [List.getElem?_map, H3.hr0]; rfl) (by have := H3.gb.n12; simp at this ⊢; omega) ?_
  refine w_storeL (by with_unfolding_all rfl) ?_
  have hk11 := H3.gb.klen H3.e
  have I0 : EqI σ l r.a lt (τ1.setL "turned" (.ref q.a)) := ⟨by k_offL, by k_clsL, by k_clsL, by k_clsL⟩
  have hlσ : σ.at_ q.l = none := Ext.back hE (X3.new q H3.mem).2.2
  refine w_forRange R.hh (q.ks.length - 1) 1 1 (fun i τ' => EqI σ l r.a lt τ' ∧ τ'.m "turned" = some (.ref q.a) ∧ Bld τ τ' (built ns) rs3 tk3) ?_
  repeat k_subL
  refine w_children G (X3.gr.ext (Ext.setL Ext.rfl) _ _ H3.e) ?_
  have hq3 : τ1.at_ q.l = some (.lst (q.ks.map .ref)) := (X3.gr _ _ H3.e).2
  repeat k_subL
  rotate_left
  · simp only [List.length_map]; omega
  simp only [List.length_map]
  refine w_range2 fun rg t1 t2 t3 hrg => ?_
  have hr1 := range_up 1 q.ks.length (by omega) (by omega)
  refine ⟨rg, _, _, _, _, rfl, putA_same, hr1.1, by exact hr1.2, ⟨I0.of (I0.ext.put hrg) rfl, by k_clsL, X3.ext (show Ext τ1 _ by k_offL)⟩, fun i t τ' Fa hi' ⟨I', hm', X'⟩ => ?_, fun τ' ⟨I', hm', X'⟩ => P3 τ' I'⟩
  have ek : (1 : Int) + i * 1 = ((i + 1 : Nat) : Int) := by push_cast; omega
  rw [ek]
  have hxi : q.ks[i]? = some (q.ks[i]'(by omega)) := List.getElem?_eq_getElem (by omega)
  have hyi : q.ks[i + 1]? = some (q.ks[i + 1]'(by omega)) := List.getElem?_eq_getElem (by omega)
  generalize q.ks[i]'(by omega) = x at hxi
  generalize q.ks[i + 1]'(by omega) = y at hyi
  have hX' := X'.gr
  have I2 := I'
  obtain ⟨eI, sI, rI, tI⟩ := I'
  repeat k_subL
  refine w_children G ((hX' _ _ H3.e).ext (show Ext τ' _ by k_offL)) ?_
  repeat k_subL
  rw [show (((i + 1 : Nat) : Int) - 1) = ((i : Nat) : Int) by omega]
  refine w_item (k := i) (v := .ref x) (setA (hX' _ _ H3.e).2) (by rw [List.getElem?_map, hxi]; rfl) (by simp only [List.length_map]; omega) ?_
  refine w_storeL (by with_unfolding_all rfl) ?_
  have eK : Ext τ' ((τ'.setL "k" (.int ((i + 1 : Nat) : Int) t)).setL "one" (.ref x)) := by k_offL
  have sK : ((τ'.setL "k" (.int ((i + 1 : Nat) : Int) t)).setL "one" (.ref x)).m "script" = some (.ref l) := by k_clsL
  have rK : ((τ'.setL "k" (.int ((i + 1 : Nat) : Int) t)).setL "one" (.ref x)).m "root" = some (.ref r.a) := by k_clsL
  have tK : ((τ'.setL "k" (.int ((i + 1 : Nat) : Int) t)).setL "one" (.ref x)).m "tokens" = some (.ref lt) := by k_clsL
  have mK : ((τ'.setL "k" (.int ((i + 1 : Nat) : Int) t)).setL "one" (.ref x)).m "turned" = some (.ref q.a) := by k_clsL
  have oK : ((τ'.setL "k" (.int ((i + 1 : Nat) : Int) t)).setL "one" (.ref x)).m "one" = some (.ref x) := by k_clsL
  have kK : ((τ'.setL "k" (.int ((i + 1 : Nat) : Int) t)).setL "one" (.ref x)).m "k" = some (.int ((i + 1 : Nat) : Int) t) := by k_clsL
  generalize ((τ'.setL "k" (.int ((i + 1 : Nat) : Int) t)).setL "one" (.ref x)) = τK at eK sK rK tK mK oK kK ⊢
  have XK := X'.ext eK
  have eσK : Ext σ τK := eI.trans eK
  have GK := XK.gr
  have lK := (GK _ _ H3.e).2
  have hFa := hF.app (Fa := Fa)
  obtain ⟨⟨ndx, hnx⟩, _⟩ := H3.gb.kid 0 _ _ _ _ _ H3.hr0 H3.e x (List.mem_of_getElem? hxi)
  obtain ⟨⟨ndy, hny⟩, _⟩ := H3.gb.kid 0 _ _ _ _ _ H3.hr0 H3.e y (List.mem_of_getElem? hyi)
  obtain ⟨M', hM, hdk⟩ := dp_pred (H3.dp hN) H3.e
  obtain rfl : M = M' := by omega
  repeat k_subL
  refine w_children G (GK _ _ H3.e) ?_
  repeat k_subL
  refine w_item (k := i + 1) (v := .ref y) lK (by rw [List.getElem?_map, hyi]; rfl) (by simp only [List.length_map]; omega) ?_
  refine w_eqT (g := Gof rs3 tk3) (h := Gof rs3 tk3) (n := M) G (R.le (by omega)) ⟨GK, GK, hdk x (List.mem_of_getElem? hxi), hdk y (List.mem_of_getElem? hyi), hnx, hny, hFa, len20 H3.gb, len20 H3.gb⟩ fun τE hEE => ?_
  cases hv : eqv (Gof rs3 tk3) (Gof rs3 tk3) M x y with
  | true =>
    repeat k_subL
    refine ⟨fun hx => (nomatch hx), fun _ => ?_⟩
    repeat k_subL
    exact ⟨⟨eσK.trans hEE.1, by k_clsL, by k_clsL, by k_clsL⟩, by k_clsL, XK.ext hEE.1⟩
  | false =>
    repeat k_subL
    refine ⟨fun _ => ?_, fun hx => (nomatch hx)⟩
    have GE := GK.ext hEE.1
    have lE := (GE _ _ H3.e).2
    have eσE := eσK.trans hEE.1
    have sE : τE.m "script" = some (.ref l) := by k_clsL
    have rE : τE.m "root" = some (.ref r.a) := by k_clsL
    have tE : τE.m "tokens" = some (.ref lt) := by k_clsL
    have mE : τE.m "turned" = some (.ref q.a) := by k_clsL
    have oE : τE.m "one" = some (.ref x) := by k_clsL
    have kE : τE.m "k" = some (.int ((i + 1 : Nat) : Int) t) := by k_clsL
    repeat k_subL
    refine w_children G (GE _ _ H3.e) ?_
    repeat k_subL
    refine w_item (k := i + 1) (v := .ref y) lE (by rw [List.getElem?_map, hyi]; rfl) (by simp only [List.length_map]; omega) ?_
    repeat k_subL
    refine w_children G (GE _ _ H3.e) ?_
    repeat k_subL
    rw [show (((i + 1 : Nat) : Int) - 1) = ((i : Nat) : Int) by omega]
    refine w_setItem (k := i) lE (by simp only [List.length_map]; omega) (by simp only [List.length_map]; omega) ?_
    rw [set_ref]
    have GF : Gr (τE.put q.l (.lst ((q.ks.set i y).map .ref))) (repK (Gof rs3 tk3) q.a (q.ks.set i y)) := gr_repK GE H3.gb.sep H3.e Ext.rfl
    have eF : Ext σ (τE.put q.l (.lst ((q.ks.set i y).map .ref))) := eσE.putN hlσ
    have sF : (τE.put q.l (.lst ((q.ks.set i y).map .ref))).m "script" = some (.ref l) := sE
    have rF : (τE.put q.l (.lst ((q.ks.set i y).map .ref))).m "root" = some (.ref r.a) := rE
    have tF : (τE.put q.l (.lst ((q.ks.set i y).map .ref))).m "tokens" = some (.ref lt) := tE
    have mF : (τE.put q.l (.lst ((q.ks.set i y).map .ref))).m "turned" = some (.ref q.a) := mE
    have oF : (τE.put q.l (.lst ((q.ks.set i y).map .ref))).m "one" = some (.ref x) := oE
    have kF : (τE.put q.l (.lst ((q.ks.set i y).map .ref))).m "k" = some (.int ((i + 1 : Nat) : Int) t) := kE
    generalize (τE.put q.l (.lst ((q.ks.set i y).map .ref))) = τF at GF eF sF rF tF mF oF kF ⊢
    have eqF := repK_p (ks' := q.ks.set i y) H3.e
    repeat k_subL
    refine w_children G (GF _ _ eqF) ?_
    repeat k_subL
    refine w_setItem (k := i + 1) (GF _ _ eqF).2 (by simp only [List.length_map, List.length_set]; omega) (by simp only [List.length_map, List.length_set]; omega) ?_
    rw [set_ref]
    have GH : Gr (τF.put q.l (.lst (((q.ks.set i y).set (i + 1) x).map .ref))) (repK (Gof rs3 tk3) q.a ((q.ks.set i y).set (i + 1) x)) := by
      have := gr_repK (ks' := (q.ks.set i y).set (i + 1) x) GF (sep_repK H3.gb.sep) eqF Ext.rfl
      rw [repK_repK H3.e] at this; exact this
    have eH : Ext σ (τF.put q.l (.lst (((q.ks.set i y).set (i + 1) x).map .ref))) := eF.putN hlσ
    have sH : (τF.put q.l (.lst (((q.ks.set i y).set (i + 1) x).map .ref))).m "script" = some (.ref l) := sF
    have rH : (τF.put q.l (.lst (((q.ks.set i y).set (i + 1) x).map .ref))).m "root" = some (.ref r.a) := rF
    have tH : (τF.put q.l (.lst (((q.ks.set i y).set (i + 1) x).map .ref))).m "tokens" = some (.ref lt) := tF
    have mH : (τF.put q.l (.lst (((q.ks.set i y).set (i + 1) x).map .ref))).m "turned" = some (.ref q.a) := mF
    generalize (τF.put q.l (.lst (((q.ks.set i y).set (i + 1) x).map .ref))) = τH at GH eH sH rH tH mH ⊢
    repeat k_subL
    have hsub : ∀ c ∈ (q.ks.set i y).set (i + 1) x, c ∈ q.ks := fun c hc => by
      rcases List.mem_or_eq_of_mem_set hc with h1 | rfl
      · rcases List.mem_or_eq_of_mem_set h1 with h1 | rfl
        · exact h1
        · exact List.mem_of_getElem? hyi
      · exact List.mem_of_getElem? hxi
    refine w_eqT (g := Gof rs tk) (h := repK (Gof rs3 tk3) q.a ((q.ks.set i y).set (i + 1) x)) (n := M + 1) G (R.le (by omega)) ⟨H.bld.gr.ext eH, GH, H.dp hN, dp_repK H3.e (H3.gb.noroot H3.hr0) hsub (H3.dp hN), H.e, repK_p H3.e, hFa, len20 H.gb, len_repK H3.e (by simp only [List.length_set]; omega) (len20 H3.gb)⟩ fun τJ hEJ => ?_
    rw [eqv_swap H3.e (H3.gb.noroot H3.hr0) hxi hyi (H.eq H3 hN) hv]
    repeat k_subL
    refine ⟨fun hx => (nomatch hx), fun _ => ?_⟩
    iterate 3 k_subL
    exact P3 τJ ⟨eH.trans hEJ.1, by k_clsL, by k_clsL, by k_clsL⟩
end PartC28

section PartC29
open PySem PySem.W PyProof.Rows PySem.Calls
set_option maxRecDepth 100000
set_option maxHeartbeats 400000
set_option linter.unusedVariables false

local macro_rules | `(tactic| k_clsL) => `(tactic| first
  | with_reducible assumption
  | (with_reducible show Sg.m (Sg.setL _ _ _) _ = some _; first | with_reducible exact getL_same | (apply getL_skip; with_unfolding_all decide; k_clsL))
  | (with_reducible show Sg.m (Sg.put _ _ _) _ = some _; apply putM; k_clsL)
  | (with_reducible show Sg.m (Sg.del _ _) _ = some _; apply delM; k_clsL)
  | (with_reducible show Sg.m (Sg.setM _ _) _ = some _; apply setMM; k_clsL)
  | (apply viaM; with_reducible assumption; k_clsL)
  | (apply viaE; with_reducible assumption; k_clsL))
local macro_rules | `(tactic| k_offL) => `(tactic| first
  | with_reducible assumption
  | with_reducible exact Ext.rfl
  | (with_reducible show Ext _ (Sg.setL _ _ _); refine Ext.setL ?_; k_offL)
  | (with_reducible show Ext _ (Sg.put _ _ _); refine Ext.put ?_ (by first | with_reducible assumption | with_reducible exact setA (by with_reducible assumption)); k_offL)
  | (with_reducible show Ext _ (Sg.setM _ _); refine Ext.setM ?_; k_offL)
  | (with_reducible refine Ext.tr (by with_reducible assumption) ?_; k_offL)
  | (with_reducible refine Ext.tr2 (by with_reducible assumption) ?_; k_offL))
local macro_rules | `(tactic| k_places) => `(tactic| first
  | with_reducible assumption
  | with_reducible exact putA_same
  | (with_reducible show Sg.at_ (Sg.setL _ _ _) _ = some _; apply setA; k_places)
  | (with_reducible show Sg.at_ (Sg.setM _ _) _ = some _; apply setMA; k_places)
  | (with_reducible show Sg.at_ (Sg.put _ _ _) _ = some _; apply putA_new; with_reducible assumption; k_places)
  | (apply ESt.at_; with_reducible assumption; k_places)
  | (apply Ext.at'; with_reducible assumption; k_places))
local macro_rules | `(tactic| k_subL) => `(tactic| first
  | (with_reducible show W _ _ _ _ (spliced (backTo _ (starEach [] _))) _ _; refine w_items0 ?_)
  | (with_reducible show W _ _ _ _ (spliced (backTo _ (starEach (_ :: _) _))) _ _; refine w_items ?_)
  | (with_reducible show W _ _ _ _ (eval (Expr.Name _ _) _) _ _; first | refine w_local (by with_unfolding_all rfl) (by k_clsL) ?_ | refine w_cell (by with_unfolding_all rfl) (by k_places) ?_ | (with_reducible show W _ _ _ _ (eval (Expr.Name ("Tree" : Str) _) _) _ _; refine w_glob (v := .ref 142) (by assumption) (by kernel_rfl) ?_) | (with_reducible show W _ _ _ _ (eval (Expr.Name ("Token" : Str) _) _) _ _; refine w_glob (v := .ref 45) (by assumption) (by kernel_rfl) ?_))
  | (with_reducible show W _ _ _ _ (eval (Expr.Call (Expr.Name ("isinstance" : Str) _) _ [] _) _) _ _; refine w_callB (n := "isinstance") (by assumption) boot_isi (by kernel_rfl) ?_)
  | (with_reducible show W _ _ _ _ (eval (Expr.Call (Expr.Name ("len" : Str) _) _ [] _) _) _ _; refine w_callB (n := "len") (by assumption) boot_len (by kernel_rfl) ?_)
  | (with_reducible show W _ _ _ _ (eval (Expr.Call (Expr.Name ("min" : Str) _) _ [] _) _) _ _; refine w_callB (n := "min") (by assumption) boot_min (by kernel_rfl) ?_)
  | (with_reducible show W _ _ _ _ (eval (Expr.Call (Expr.Name ("range" : Str) _) _ [] _) _) _ _; refine w_callT (n := "range") (by assumption) boot_range (by kernel_rfl) ?_)
  | (with_reducible show W _ _ _ _ (eval (Expr.Call (Expr.Name ("str" : Str) _) _ [] _) _) _ _; refine w_callT (n := "str") (by assumption) boot_str (by kernel_rfl) ?_)
  | (with_reducible show W _ _ _ _ (eval (Expr.Call (Expr.Name ("list" : Str) _) _ [] _) _) _ _; refine w_callT (n := "list") (by assumption) boot_list (by kernel_rfl) ?_)
  | (with_reducible show W _ _ _ _ (eval (Expr.Call (Expr.Name ("reversed" : Str) _) _ [] _) _) _ _; refine w_callT (n := "reversed") (by assumption) boot_rev (by kernel_rfl) ?_)
  | (with_reducible show W _ _ _ _ (eval (Expr.Call (Expr.Name ("filter" : Str) _) _ [] _) _) _ _; refine w_callT (n := "filter") (by assumption) boot_filter (by kernel_rfl) ?_)
  | (with_reducible show W _ _ _ _ (call (.builtin "len") [.ref _]) _ _; (refine w_len (by k_places) ?_ fun _ => ?_); rotate_left)
  | (with_reducible show W _ _ _ _ (binaryOp .Add (.int _ _) (.int _ _)) _ _; refine w_addI fun _ => ?_)
  | (with_reducible show W _ _ _ _ (binaryOp .Sub (.int _ _) (.int _ _)) _ _; refine w_subI fun _ => ?_)
  | (with_reducible show W _ _ _ _ (compareOp .Eq (.int _ _) (.int _ _)) _ _; refine w_eqI ?_)
  | (with_reducible show W _ _ _ _ (compareOp .NotEq (.int _ _) (.int _ _)) _ _; refine w_neI ?_)
  | (with_reducible show W _ _ _ _ (compareOp .Lt (.int _ _) (.int _ _)) _ _; refine w_ltI ?_)
  | (with_reducible show W _ _ _ _ (compareOp .Eq (.str _ _) (.str _ _)) _ _; refine w_eqS ?_)
  | (with_reducible show W _ _ _ _ (compareOp .NotEq (.bool _) (.bool _)) _ _; refine w_neB ?_)
  | (with_reducible show W _ _ _ _ (unaryOp .USub (.int _ _)) _ _; refine w_negI fun _ => ?_)
  | (with_reducible show W _ _ _ _ (unaryOp .Not _) _ _; refine w_notv ?_)
  | (with_reducible show W _ _ _ _ (eval (Expr.Attribute _ _ _) _) _ _; refine w_attr ?_)
  | (with_reducible show W _ _ _ _ (eval (Expr.List _ _) _) _ _; refine w_list ?_)
  | (with_reducible show W _ _ _ _ (eval (Expr.Tuple _ _ _) _) _ _; refine w_tuple ?_)
  | (with_reducible show W _ _ _ _ (eval (Expr.BinOp _ _ _ _) _) _ _; refine w_binop ?_)
  | (with_reducible show W _ _ _ _ (eval (Expr.Compare _ [_] [_] _) _) _ _; refine w_cmp ?_)
  | (with_reducible show W _ _ _ _ (eval (Expr.IfExp _ _ _ _) _) _ _; refine w_ifexp ?_)
  | (with_reducible show W _ _ _ _ (eval (Expr.Subscript _ _ _) _) _ _; refine w_sub ?_)
  | (with_reducible show W _ _ _ _ (eval (Expr.UnaryOp _ _ _) _) _ _; refine w_unop ?_)
  | (with_reducible show W _ _ _ _ (eval (Expr.Constant .none _ _) _) _ _; refine w_none ?_)
  | (with_reducible show W _ _ _ _ (eval (Expr.Constant (.bool _) _ _) _) _ _; refine w_tf ?_)
  | (with_reducible show W _ _ _ _ (eval (Expr.Constant (.int _) _ _) _) _ _; refine w_int ?_; intro _)
  | (with_reducible show W _ _ _ _ (eval (Expr.Constant (.str _) _ _) _) _ _; refine w_str ?_; intro _)
  | (with_reducible show W _ _ _ _ (execs [] _) _ _; refine w_nil ?_)
  | (with_reducible show W _ _ _ _ (execs (Stmt.Assign [Expr.Name _ _] (Expr.ListComp _ [Comprehension.mk _ _ _ _] _ _) _ :: _) _) _ _; refine w_cons (w_assignComp ?_))
  | (with_reducible show W _ _ _ _ (execs (Stmt.Assign [Expr.Name _ _] _ _ :: _) _) _ _; refine w_consA ?_)
  | (with_reducible show W _ _ _ _ (execs (Stmt.Assign [Expr.Attribute _ _ _] _ _ :: _) _) _ _; refine w_consAttr ?_)
  | (with_reducible show W _ _ _ _ (execs (Stmt.Assign [Expr.Subscript _ _ _] _ _ :: _) _) _ _; refine w_consSub ?_)
  | (with_reducible show W _ _ _ _ (execs (Stmt.If _ _ [] _ :: _) _) _ _; refine w_consIf ?_)
  | (with_reducible show W _ _ _ _ (execs (Stmt.If _ _ _ _ :: _) _) _ _; refine w_consElse ?_)
  | (with_reducible show W _ _ _ _ (execs (Stmt.Return (some _) _ :: _) _) _ _; refine w_consRet ?_)
  | (with_reducible show W _ _ _ _ (execs (Stmt.Break _ :: _) _) _ _; refine w_consBrk ?_)
  | (with_reducible show W _ _ _ _ (execs (Stmt.Continue _ :: _) _) _ _; refine w_consCont ?_)
  | (with_reducible show W _ _ _ _ (execs (Stmt.Expr (Expr.Call (Expr.Attribute _ _ _) [_] [] _) _ :: _) _) _ _; refine w_consApp ?_)
  | (with_reducible show W _ _ _ _ (execs (Stmt.Expr _ _ :: _) _) _ _; refine w_consE ?_)
  | (with_reducible show W _ _ _ _ (isTrue (Expr.UnaryOp .Not _ _) _ _) _ _; refine w_not ?_)
  | (with_reducible show W _ _ _ _ (isTrue (Expr.BoolOp _ _ _) _ _) _ _; refine w_bool ?_)
  | (with_reducible show W _ _ _ _ (allTrue .And [] _) _ _; refine w_andNil ?_)
  | (with_reducible show W _ _ _ _ (allTrue .Or [] _) _ _; refine w_orNil ?_)
  | (with_reducible show W _ _ _ _ (allTrue .And (_ :: _) _) _ _; refine w_and ?_)
  | (with_reducible show W _ _ _ _ (allTrue .Or (_ :: _) _) _ _; refine w_or ?_)
  | (with_reducible show W _ _ _ _ (isTrue (Expr.Compare _ [_] [_] _) _ _) _ _; refine w_tcmp ?_)
  | (with_reducible show W _ _ _ _ (isTrue _ _ _) _ _; refine w_tval ?_)
  | (with_reducible show W _ _ _ _ (storeName _ _ _) _ _; first | refine w_storeL (by with_unfolding_all rfl) ?_ | refine w_storeC (by with_unfolding_all rfl) (by k_places) ?_)
  | (with_reducible show W _ _ _ _ (tests [_] _) _ _; refine w_tests1 ?_)
  | (with_reducible show W _ _ _ _ (tests [] _) _ _; refine w_tests0 ?_)
  | (with_reducible show W _ _ _ _ (eval (Expr.ListComp _ [Comprehension.mk _ _ _ _] _ _) _) _ _; refine w_listcomp ?_)
  | (with_reducible show W _ _ _ _ (truthy (.bool _)) _ _; refine w_truthyB ?_)
  | (with_reducible show thenK _ _ Flow.next _; refine thenK_next ?_)
  | (with_reducible show thenK _ _ Flow.brk _; refine thenK_brk ?_)
  | (with_reducible show thenK _ _ Flow.cont _; refine thenK_cont ?_)
  | (with_reducible show thenK _ _ (Flow.ret _) _; refine thenK_ret ?_)
  | (with_reducible show turnK _ _ _ Flow.next _; refine turnK_next ?_)
  | (with_reducible show turnK _ _ _ Flow.brk _; refine turnK_brk ?_)
  | (with_reducible show turnK _ _ _ Flow.cont _; refine turnK_cont ?_)
  | (with_reducible show turnK _ _ _ (Flow.ret _) _; refine turnK_ret ?_))

theorem gr_fresh {σ : Sg} {g : Gf} {x : Addr} (hG : Gr σ g) (h : σ.at_ x = none) : g x = none := by
  cases e : g x with
  | none => rfl
  | some nd =>
    have := hG x nd e
    cases nd with
    | node => obtain ⟨⟨t, h1, h2⟩, h3⟩ := this; rw [h] at h1; cases h1
    | tok => obtain ⟨t, u, h1, h2⟩ := this; rw [h] at h1; cases h1
def AllK (g : Gf) : Prop := ∀ a d l nm ks, g a = some (.node d l nm ks) → ∀ c ∈ ks, ∃ nd, g c = some nd
theorem Like.all {S : Prop} {g g' : Gf} (h : Like S g g') (hg : AllK g) : AllK g' := fun a d l nm ks' e' c' hc' => by
  have q : isTree g a = true := by rw [← h.tree]; exact isTree_of e'
  obtain ⟨d0, l0, nm0, ks, e⟩ := node_of q
  obtain ⟨ks2, e2, hl, hk⟩ := h.node _ _ _ _ _ e
  rw [e'] at e2; cases e2
  obtain ⟨i, hi⟩ := List.mem_iff_getElem?.mp hc'
  have hlt := (List.getElem?_eq_some_iff.mp hi).1
  have h1 : ks[i]? = some (ks[i]'(by omega)) := List.getElem?_eq_getElem (by omega)
  rcases hk i _ _ h1 hi with ⟨t, e3⟩ | ⟨d1, k1, v1, d2, k2, v2, t1, t2, _⟩
  · subst e3
    have : isTree g' (ks[i]'(by omega)) = true := by rw [h.tree]; exact t
    obtain ⟨_, _, _, _, e4⟩ := node_of this
    exact ⟨_, e4⟩
  · exact ⟨_, t2⟩
theorem Gb.all_ {g : Gf} {as : List Addr} (B : Gb g as) : AllK g := fun a d l nm ks e c hc => by
  obtain ⟨i, hi⟩ := List.mem_iff_getElem?.mp (B.tr a (isTree_of e))
  exact (B.kid i a d l nm ks hi e c hc).1

/-- a put, its place known -/
theorem put_step {b : Base} (G : Glb b) {h : Gf} {N : Nat} {A : Around} {F : Fs} {L : Addr} {σ τ : Sg} {q p xt dt d l : Addr} {k : Nat} {kt vt nm : Str} {ks : List Addr} (R : Rm A N) (hE : Ext σ τ) (hG : Gr τ h) (hs : SepL h) (hD : Dp h N q) (hT : isTree h q = true)
    (hlen : ∀ p d l nm ks, h p = some (.node d l nm ks) → ks.length ≤ 2 ^ 20) (hp : gpos h N q = some (p, k)) (e : h p = some (.node d l nm ks)) (hl : σ.at_ l = none) (ht : NdAt τ xt (.tok dt kt vt)) (hn : h xt = none) :
    WC b A F L (.call (.ref 193) ⟨[.ref q, .ref xt], []⟩) τ fun v τ' => (∃ c, v = .bool c) ∧ Ext σ τ' ∧ τ'.m = τ.m ∧ Gr τ' (putG h p k xt (.tok dt kt vt)) ∧ SepL (putG h p k xt (.tok dt kt vt)) :=
  WC.mono (c_put G h xt N A F L τ q hG hD hT R hlen) fun v τ' ⟨hv, hP⟩ => by
    rw [hp] at hP
    obtain ⟨d', l', nm', ks', e', hk, hE'⟩ := hP
    rw [e] at e'; cases e'
    have := gr_put hG hs ht hn e hE'.1
    exact ⟨⟨_, hv⟩, (hE.putN hl).trans hE'.1, hE'.2, this⟩

theorem eqv_last {g h : Gf} {N : Nat} {x y : Addr} {u v : Str × Str} (h1 : ((gtoks g N x).map (kv g)).getLast? = some u) (h2 : ((gtoks h N y).map (kv h)).getLast? = some v) (hne : u ≠ v) : eqv g h N x y = false := by
  cases q : eqv g h N x y with
  | false => rfl
  | true => have := eqv_toks N x y q; rw [this, h2] at h1; cases h1; exact absurd rfl hne
theorem Like.root {S : Prop} {g g' : Gf} (h : Like S g g') {a d l : Addr} {nm : Str} {ks : List Addr} (e : g a = some (.node d l nm ks)) : ∃ nd, g' a = some nd := by
  obtain ⟨ks', e', _⟩ := h.node _ _ _ _ _ e; exact ⟨_, e'⟩
theorem eq_p6 {b : Base} (G : Glb b) {N : Nat} (hN : 12 ≤ N) {A : Around} {F : Fs} {L l lt : Addr} {ns : List Int} {σ₀ σ τ₀ τ : Sg} {rs rs2 : List Rec} {tk tk2 : List TkR} {r q : Rec} {cs : List (Str × Addr)} {body : List Stmt} (hb : fEqual.1.body = .stmts body)
    (R : Rm A (N + 10)) (hF : Frs A F L) (H : RootI b l ns σ₀ σ rs tk r) (I : EqI σ l r.a lt τ) (hlt : σ.at_ lt = some (.lst ((gtoks (Gof rs tk) N r.a).map .ref))) (hx0 : Ext σ τ₀) (H2 : RootI b l ns τ₀ τ rs2 tk2 q) (hm : τ.m "twin" = some (.ref q.a)) :
    W b A F L (execs (body.drop 6) (fnEnv fEqual.1 L cs 200)) τ (QE σ) := by
  have P2 : ∀ τ, EqI σ l r.a lt τ → W b A F L (execs (body.drop 7) (fnEnv fEqual.1 L cs 200)) τ (QE σ) := fun τ I => eq_p2 G hN hb R hF H I
  have hb' := FuncBody.stmts.inj (show FuncBody.stmts _ = FuncBody.stmts body from hb)
  subst hb'
  simp only [List.drop_succ_cons, List.drop_zero] at P2 ⊢
  have heq := H.eq H2 hN
  have hI := I
  obtain ⟨hE, hs, hr, ht⟩ := I
  refine w_consIfP (EqI σ l r.a lt) ?_ P2
  have hlτ := hE.at_ _ _ hlt
  repeat k_subL
  refine w_newList (by rw [sizeLine_eq]; simp) fun le hle => ?_
  repeat k_subL
  refine w_ne0 (by have := R.r.units; omega) (putA_new hle hlτ) putA_same ?_
  repeat k_subL
  refine ⟨fun hne => ?_, fun _ => ⟨hE.put hle, hs, hr, ht⟩⟩
  have eL : Ext τ (τ.put le (.lst [])) := Ext.new hle
  have e0 : Ext σ (τ.put le (.lst [])) := hE.put hle
  have H2' : Bld τ₀ (τ.put le (.lst [])) (built ns) rs2 tk2 := H2.bld.ext eL
  have hs0 : (τ.put le (.lst [])).m "script" = some (.ref l) := hs
  have hr0 : (τ.put le (.lst [])).m "root" = some (.ref r.a) := hr
  have ht0 : (τ.put le (.lst [])).m "tokens" = some (.ref lt) := ht
  have hm0 : (τ.put le (.lst [])).m "twin" = some (.ref q.a) := hm
  generalize (τ.put le (.lst [])) = τ1 at eL e0 H2' hs0 hr0 ht0 hm0 ⊢
  -- the last token and its place
  rcases snoc_or (gtoks (Gof rs tk) N r.a) with h0 | ⟨t0, kept, h0⟩
  · rw [h0] at hne; simp at hne
  have hgl : (gtoks (Gof rs tk) N r.a).getLast? = some kept := by rw [h0]; simp
  obtain ⟨p', k', hp', hk'⟩ : ∃ p' k', gpos (Gof rs tk) N r.a = some (p', k') ∧ (kidsOf (Gof rs tk) p')[k']? = some kept := by
    rw [gpos_last] at hgl
    cases hp : gpos (Gof rs tk) N r.a with
    | none => rw [hp] at hgl; cases hgl
    | some w => rw [hp] at hgl; exact ⟨w.1, w.2, rfl, hgl⟩
  obtain ⟨dp', lp', nmp', ksp', c', ep', hc', hTc'⟩ := gpos_ok N _ _ _ hp'
  obtain rfl : c' = kept := by unfold kidsOf at hk'; rw [ep'] at hk'; rw [hc'] at hk'; cases hk'; rfl
  obtain ⟨nk, hnk⟩ := H.gb.all_ _ _ _ _ _ ep' c' (List.mem_of_getElem? hc')
  obtain ⟨dk, kt, vt, rfl⟩ : ∃ dk kt vt, nk = .tok dk kt vt := by
    cases nk with
    | node => rw [isTree_of hnk] at hTc'; cases hTc'
    | tok d k v => exact ⟨d, k, v, rfl⟩
  obtain ⟨hkt, hvt⟩ := H.gb.tk p' c' dk kt vt (by unfold kidsA; rw [ep']; exact List.mem_of_getElem? hc') hnk
  have hkv := eqv_toks N _ _ heq
  have hl2 : ((gtoks (Gof rs2 tk2) N q.a).map (kv (Gof rs2 tk2))).getLast? = some (kt, vt) := by
    rw [← hkv, List.getLast?_map, hgl]
    show some (kv _ c') = _
    unfold kv; rw [hnk]
  obtain ⟨p, k, c, hp, hk, hcv⟩ : ∃ p k c, gpos (Gof rs2 tk2) N q.a = some (p, k) ∧ (kidsOf (Gof rs2 tk2) p)[k]? = some c ∧ kv (Gof rs2 tk2) c = (kt, vt) := by
    rw [List.getLast?_map, gpos_last] at hl2
    cases hp : gpos (Gof rs2 tk2) N q.a with
    | none => rw [hp] at hl2; cases hl2
    | some w =>
      rw [hp] at hl2
      simp only [Option.bind_some] at hl2
      obtain ⟨c, h1, h2⟩ := Option.map_eq_some_iff.mp hl2
      exact ⟨w.1, w.2, c, rfl, h1, h2⟩
  obtain ⟨d, ll, nm, ks, c2, ep, hc, hTc⟩ := gpos_ok N _ _ _ hp
  obtain rfl : c2 = c := by unfold kidsOf at hk; rw [ep] at hk; rw [hc] at hk; cases hk; rfl
  obtain ⟨nc, hnc⟩ := H2.gb.all_ _ _ _ _ _ ep c2 (List.mem_of_getElem? hc)
  obtain ⟨d0, rfl⟩ : ∃ d0, nc = .tok d0 kt vt := by
    cases nc with
    | node => rw [isTree_of hnc] at hTc; cases hTc
    | tok d k v => unfold kv at hcv; rw [hnc] at hcv; cases hcv; exact ⟨d, rfl⟩
  have hllσ : σ.at_ ll = none := by
    obtain ⟨w, hw, hwp⟩ : ∃ w ∈ rs2, w.l = ll := by
      rcases H2.bld.gofI ep with ⟨w, hw, _, q⟩ | ⟨_, _, _, q⟩
      · cases q; exact ⟨w, hw, rfl⟩
      · cases q
    rw [← hwp]; exact Ext.back hx0 (H2.bld.new w hw).2.2
  have hh0 : kidsOf (Gof rs2 tk2) p = ks := by unfold kidsOf; rw [ep]
  have hck : k < ks.length := (List.getElem?_eq_some_iff.mp hc).1
  have hD0 : Dp (Gof rs2 tk2) N q.a := H2.dp hN
  have hT0 : isTree (Gof rs2 tk2) q.a = true := isTree_of H2.e
  have hall0 : AllK (Gof rs2 tk2) := H2.gb.all_
  have hlen0 := len20 H2.gb
  have hGk : ∀ {τ'}, Ext σ τ' → NdAt τ' c' (.tok dk kt vt) := fun e => (H.bld.gr.ext e) _ _ hnk
  have hlt1 : τ1.at_ lt = some (.lst (t0.map .ref ++ [.ref c'])) := by
    have := e0.at_ _ _ hlt; rw [h0] at this; simpa using this
  have ht0l : t0.length ≤ 2 ^ 11 := by
    have h1 := gtoks_le (Gof rs tk) N r.a
    have h2 := H.gb.gall (isTree_of H.e) N
    rw [h0] at h1; simp at h1; omega
  repeat k_subL
  refine w_itemNeg (xs := t0.map .ref) (v := .ref c') hlt1 (by simp only [List.length_map]; omega) ?_
  repeat k_subL
  refine w_call0 (f := 193) G (by kernel_rfl) ?_
  repeat k_subL
  refine w_call0 (f := 45) G (by kernel_rfl) ?_
  repeat k_subL
  refine w_type G (hGk (e0.setL)) fun _ => ?_
  repeat k_subL
  refine WC.call (WC.mono (c_Token G (room_of (R.le (m := N + 5) (by omega)))) fun v τ2 ⟨x1, dt1, hv, hx1, hdt1, It, hE2⟩ => ?_)
  subst hv
  obtain ⟨It1, It2⟩ := It
  have n1 : NdAt τ2 x1 (.tok dt1 kt "other") := ⟨_, _, It1, It2⟩
  have e2 : Ext σ τ2 := by k_offL
  have hs2 : τ2.m "script" = some (.ref l) := by k_clsL
  have hr2 : τ2.m "root" = some (.ref r.a) := by k_clsL
  have ht2 : τ2.m "tokens" = some (.ref lt) := by k_clsL
  have hm2 : τ2.m "twin" = some (.ref q.a) := by k_clsL
  have hk2 : τ2.m "kept" = some (.ref c') := by k_clsL
  have hf1 : Gof rs2 tk2 x1 = none := gr_fresh (H2'.gr.ext (Ext.setL (n := "kept") (v := .ref c') Ext.rfl)) hx1
  have hG2 : Gr τ2 (Gof rs2 tk2) := H2'.gr.ext (show Ext τ1 τ2 by k_offL)
  clear It1 It2 hE2 hx1 hdt1 hs0 hr0 ht0 hm0 hlt1 eL e0
  repeat k_subL
  refine WC.call (WC.mono (put_step (xt := x1) (dt := dt1) (kt := kt) (vt := "other") G (R.le (by omega)) e2 hG2 H2.gb.sep hD0 hT0 hlen0 hp ep hllσ n1 hf1) fun v τ3 ⟨⟨cv, hv⟩, e3, hm3, hG3, hS3⟩ => ?_)
  subst hv
  refine ⟨(fun a e => nomatch e), ?_⟩
  have hgu : ((gtoks (Gof rs tk) N r.a).map (kv (Gof rs tk))).getLast? = some (kt, vt) := by rw [hkv]; exact hl2
  have nx1 : x1 ≠ p := fun e => by rw [e, ep] at hf1; cases hf1
  have L1 : Like False (Gof rs2 tk2) (putG (Gof rs2 tk2) p k x1 (.tok dt1 kt "other")) := like_put ep hc ⟨d0, kt, vt, hnc⟩ hf1 hall0
  have lst1 := last_put L1 hp hf1
  have ep1 : putG (Gof rs2 tk2) p k x1 (.tok dt1 kt "other") p = some (.node d ll nm (ks.set k x1)) := putG_p ep nx1
  have ex1 : putG (Gof rs2 tk2) p k x1 (.tok dt1 kt "other") x1 = some (.tok dt1 kt "other") := putG_tk nx1
  have hD1 := L1.dp N q.a hT0 hD0
  have hT1 : isTree (putG (Gof rs2 tk2) p k x1 (.tok dt1 kt "other")) q.a = true := by rw [L1.tree]; exact hT0
  have hall1 := L1.all hall0
  have hlen1 := L1.len hlen0
  have hp1 := (L1.gpos N q.a).trans hp
  obtain ⟨nr1, hnr1⟩ := L1.root H2.e
  have q1 := eqv_last hgu lst1 (fun e => hvt (congrArg Prod.snd e))
  have L2' : ∀ {x2 dt2}, Gof rs2 tk2 x2 = none → x2 ≠ x1 → Like True (Gof rs2 tk2) (putG (putG (Gof rs2 tk2) p k x1 (.tok dt1 kt "other")) p k x2 (.tok dt2 kt vt)) := fun hn hne => like_put2 ep hc hnc hf1 hn hne hall0
  have hs3 : τ3.m "script" = some (.ref l) := by rw [hm3]; exact hs2
  have hr3 : τ3.m "root" = some (.ref r.a) := by rw [hm3]; exact hr2
  have ht3 : τ3.m "tokens" = some (.ref lt) := by rw [hm3]; exact ht2
  have hmm3 : τ3.m "twin" = some (.ref q.a) := by rw [hm3]; exact hm2
  have hk3 : τ3.m "kept" = some (.ref c') := by rw [hm3]; exact hk2
  clear hm3 hs2 hr2 ht2 hm2 hk2 hG2 n1 e2
  have hx1none : ∀ {x}, (putG (Gof rs2 tk2) p k x1 (.tok dt1 kt "other")) x = none → Gof rs2 tk2 x = none ∧ x ≠ x1 := fun {x} hn => by
    have h1 : x ≠ x1 := fun e => by rw [e, ex1] at hn; cases hn
    have h2 : x ≠ p := fun e => by rw [e, ep1] at hn; cases hn
    rw [putG_o h2 h1] at hn
    exact ⟨hn, h1⟩
  generalize hh1 : putG (Gof rs2 tk2) p k x1 (.tok dt1 kt "other") = h1 at *
  repeat k_subL
  refine w_eqT (g := Gof rs tk) (h := h1) (n := N) G (R.le (by omega)) ⟨H.bld.gr.ext e3, hG3, H.dp hN, hD1, H.e, hnr1, hF, len20 H.gb, hlen1⟩ fun τ4 hE4 => ?_
  rw [q1]
  repeat k_subL
  refine ⟨fun hx => (nomatch hx), fun _ => ?_⟩
  repeat k_subL
  have e4 := e3.trans hE4.1
  refine w_neT (g := Gof rs tk) (h := h1) (n := N) G (R.le (by omega)) ⟨H.bld.gr.ext e4, hG3.ext hE4.1, H.dp hN, hD1, H.e, hnr1, hF, len20 H.gb, hlen1⟩ fun τ5 hE5 => ?_
  rw [q1]
  repeat k_subL
  refine ⟨fun hx => (nomatch hx), fun _ => ?_⟩
  repeat k_subL
  refine ⟨fun hx => (nomatch hx), fun _ => ?_⟩
  have e5 := e4.trans hE5.1
  have hG5 := hG3.ext (hE4.1.trans hE5.1)
  have hs5 : τ5.m "script" = some (.ref l) := by k_clsL
  have hr5 : τ5.m "root" = some (.ref r.a) := by k_clsL
  have ht5 : τ5.m "tokens" = some (.ref lt) := by k_clsL
  have hm5 : τ5.m "twin" = some (.ref q.a) := by k_clsL
  have hk5 : τ5.m "kept" = some (.ref c') := by k_clsL
  clear hE4 hE5 hs3 hr3 ht3 hmm3 hk3 e4 e3 hG3
  repeat k_subL
  refine w_call0 (f := 193) G (by kernel_rfl) ?_
  repeat k_subL
  refine w_call0 (f := 45) G (by kernel_rfl) ?_
  repeat k_subL
  refine w_type G (hGk e5) fun _ => ?_
  repeat k_subL
  refine w_value G (hGk e5) fun _ => ?_
  repeat k_subL
  refine WC.call (WC.mono (c_Token G (room_of (R.le (m := N + 5) (by omega)))) fun v τ6 ⟨x2, dt2, hv, hx2, hdt2, It, hE6⟩ => ?_)
  subst hv
  obtain ⟨It1, It2⟩ := It
  have n2 : NdAt τ6 x2 (.tok dt2 kt vt) := ⟨_, _, It1, It2⟩
  have e6 : Ext σ τ6 := e5.trans hE6.1
  have hf2 : h1 x2 = none := gr_fresh hG5 hx2
  have hG6 := hG5.ext hE6.1
  have hs6 : τ6.m "script" = some (.ref l) := by k_clsL
  have hr6 : τ6.m "root" = some (.ref r.a) := by k_clsL
  have ht6 : τ6.m "tokens" = some (.ref lt) := by k_clsL
  have hm6 : τ6.m "twin" = some (.ref q.a) := by k_clsL
  have hk6 : τ6.m "kept" = some (.ref c') := by k_clsL
  clear It1 It2 hE6 hx2 hdt2 hs5 hr5 ht5 hm5 hk5 e5 hG5
  repeat k_subL
  refine WC.call (WC.mono (put_step (xt := x2) (dt := dt2) (kt := kt) (vt := vt) G (R.le (by omega)) e6 hG6 hS3 hD1 hT1 hlen1 hp1 ep1 hllσ n2 hf2) fun v τ7 ⟨⟨cv2, hv⟩, e7, hm7, hG7, hS7⟩ => ?_)
  subst hv
  refine ⟨(fun a e => nomatch e), ?_⟩
  have nx2 : x2 ≠ p := fun e => by rw [e, ep1] at hf2; cases hf2
  have hc1 : (ks.set k x1)[k]? = some x1 := List.getElem?_set_self hck
  have L2 : Like False h1 (putG h1 p k x2 (.tok dt2 kt vt)) := like_put ep1 hc1 ⟨_, _, _, ex1⟩ hf2 hall1
  have LT : Like True (Gof rs2 tk2) (putG h1 p k x2 (.tok dt2 kt vt)) := L2' (hx1none hf2).1 (hx1none hf2).2
  have ep2 : putG h1 p k x2 (.tok dt2 kt vt) p = some (.node d ll nm ((ks.set k x1).set k x2)) := putG_p ep1 nx2
  have ex2 : putG h1 p k x2 (.tok dt2 kt vt) x2 = some (.tok dt2 kt vt) := putG_tk nx2
  have hD2 := L2.dp N q.a hT1 hD1
  have hT2 : isTree (putG h1 p k x2 (.tok dt2 kt vt)) q.a = true := by rw [L2.tree]; exact hT1
  have hall2 := L2.all hall1
  have hlen2 := L2.len hlen1
  have hp2 := (L2.gpos N q.a).trans hp1
  obtain ⟨nr2, hnr2⟩ := LT.root H2.e
  have q2 := eqv_trans N _ _ _ heq (LT.eqv N q.a hT0 hD0)
  have hs7 : τ7.m "script" = some (.ref l) := by rw [hm7]; exact hs6
  have hr7 : τ7.m "root" = some (.ref r.a) := by rw [hm7]; exact hr6
  have ht7 : τ7.m "tokens" = some (.ref lt) := by rw [hm7]; exact ht6
  have hmm7 : τ7.m "twin" = some (.ref q.a) := by rw [hm7]; exact hm6
  have hk7 : τ7.m "kept" = some (.ref c') := by rw [hm7]; exact hk6
  clear hm7 hs6 hr6 ht6 hm6 hk6 hG6 n2 e6 L2' hx1none
  generalize hh2 : putG h1 p k x2 (.tok dt2 kt vt) = h2 at *
  repeat k_subL
  refine w_neT (g := Gof rs tk) (h := h2) (n := N) G (R.le (by omega)) ⟨H.bld.gr.ext e7, hG7, H.dp hN, hD2, H.e, hnr2, hF, len20 H.gb, hlen2⟩ fun τ8 hE8 => ?_
  rw [q2]
  repeat k_subL
  refine ⟨fun hx => (nomatch hx), fun _ => ?_⟩
  have e8 := e7.trans hE8.1
  have hG8 := hG7.ext hE8.1
  have hs8 : τ8.m "script" = some (.ref l) := by k_clsL
  have hr8 : τ8.m "root" = some (.ref r.a) := by k_clsL
  have ht8 : τ8.m "tokens" = some (.ref lt) := by k_clsL
  have hm8 : τ8.m "twin" = some (.ref q.a) := by k_clsL
  have hk8 : τ8.m "kept" = some (.ref c') := by k_clsL
  clear hE8 hs7 hr7 ht7 hmm7 hk7 e7 hG7
  repeat k_subL
  refine w_call0 (f := 193) G (by kernel_rfl) ?_
  repeat k_subL
  refine w_call0 (f := 45) G (by kernel_rfl) ?_
  repeat k_subL
  refine w_value G (hGk e8) fun _ => ?_
  repeat k_subL
  refine WC.call (WC.mono (c_Token G (room_of (R.le (m := N + 5) (by omega)))) fun v τ9 ⟨x3, dt3, hv, hx3, hdt3, It, hE9⟩ => ?_)
  subst hv
  obtain ⟨It1, It2⟩ := It
  have n3 : NdAt τ9 x3 (.tok dt3 "Z" vt) := ⟨_, _, It1, It2⟩
  have e9 : Ext σ τ9 := e8.trans hE9.1
  have hf3 : h2 x3 = none := gr_fresh hG8 hx3
  have hG9 := hG8.ext hE9.1
  have hs9 : τ9.m "script" = some (.ref l) := by k_clsL
  have hr9 : τ9.m "root" = some (.ref r.a) := by k_clsL
  have ht9 : τ9.m "tokens" = some (.ref lt) := by k_clsL
  have hm9 : τ9.m "twin" = some (.ref q.a) := by k_clsL
  clear It1 It2 hE9 hx3 hdt3 hs8 hr8 ht8 hm8 hk8 e8 hG8
  repeat k_subL
  refine WC.call (WC.mono (put_step (xt := x3) (dt := dt3) (kt := "Z") (vt := vt) G (R.le (by omega)) e9 hG9 hS7 hD2 hT2 hlen2 hp2 ep2 hllσ n3 hf3) fun v τA ⟨⟨cv3, hv⟩, eA, hmA, hGA, hSA⟩ => ?_)
  subst hv
  refine ⟨(fun a e => nomatch e), ?_⟩
  have hc2 : ((ks.set k x1).set k x2)[k]? = some x2 := List.getElem?_set_self (by rw [List.length_set]; exact hck)
  have L3 : Like False h2 (putG h2 p k x3 (.tok dt3 "Z" vt)) := like_put ep2 hc2 ⟨_, _, _, ex2⟩ hf3 hall2
  have lst3 := last_put L3 hp2 hf3
  have q3 := eqv_last hgu lst3 (fun e => by
    have := congrArg Prod.fst e
    rcases hkt with rfl | rfl
    · exact absurd (show ("X" : Str) = "Z" from this) (by decide)
    · exact absurd (show ("Y" : Str) = "Z" from this) (by decide))
  obtain ⟨nr3, hnr3⟩ := (show ∃ nd, putG h2 p k x3 (.tok dt3 "Z" vt) q.a = some nd by
    obtain ⟨_, _, _, _, e⟩ := node_of hT2
    exact L3.root e)
  have hsA : τA.m "script" = some (.ref l) := by rw [hmA]; exact hs9
  have hrA : τA.m "root" = some (.ref r.a) := by rw [hmA]; exact hr9
  have htA : τA.m "tokens" = some (.ref lt) := by rw [hmA]; exact ht9
  have hmmA : τA.m "twin" = some (.ref q.a) := by rw [hmA]; exact hm9
  clear hmA hs9 hr9 ht9 hm9 hG9 n3 e9
  repeat k_subL
  refine w_eqT (g := Gof rs tk) (h := putG h2 p k x3 (.tok dt3 "Z" vt)) (n := N) G (R.le (by omega)) ⟨H.bld.gr.ext eA, hGA, H.dp hN, L3.dp N q.a hT2 hD2, H.e, hnr3, hF, len20 H.gb, L3.len hlen2⟩ fun τB hEB => ?_
  rw [q3]
  repeat k_subL
  refine ⟨fun hx => (nomatch hx), fun _ => ?_⟩
  repeat k_subL
  exact ⟨eA.trans hEB.1, by k_clsL, by k_clsL, by k_clsL⟩
end PartC29

section PartC30
open PySem PySem.W PyProof.Rows PySem.Calls
set_option maxRecDepth 100000
set_option maxHeartbeats 400000
set_option linter.unusedVariables false

local macro_rules | `(tactic| k_clsL) => `(tactic| first
  | with_reducible assumption
  | (with_reducible show Sg.m (Sg.setL _ _ _) _ = some _; first | with_reducible exact getL_same | (apply getL_skip; with_unfolding_all decide; k_clsL))
  | (with_reducible show Sg.m (Sg.put _ _ _) _ = some _; apply putM; k_clsL)
  | (with_reducible show Sg.m (Sg.del _ _) _ = some _; apply delM; k_clsL)
  | (with_reducible show Sg.m (Sg.setM _ _) _ = some _; apply setMM; k_clsL)
  | (apply viaM; with_reducible assumption; k_clsL)
  | (apply viaE; with_reducible assumption; k_clsL))
local macro_rules | `(tactic| k_offL) => `(tactic| first
  | with_reducible assumption
  | with_reducible exact Ext.rfl
  | (with_reducible show Ext _ (Sg.setL _ _ _); refine Ext.setL ?_; k_offL)
  | (with_reducible show Ext _ (Sg.put _ _ _); refine Ext.put ?_ (by first | with_reducible assumption | with_reducible exact setA (by with_reducible assumption)); k_offL)
  | (with_reducible show Ext _ (Sg.setM _ _); refine Ext.setM ?_; k_offL)
  | (with_reducible refine Ext.tr (by with_reducible assumption) ?_; k_offL)
  | (with_reducible refine Ext.tr2 (by with_reducible assumption) ?_; k_offL))
local macro_rules | `(tactic| k_places) => `(tactic| first
  | with_reducible assumption
  | with_reducible exact putA_same
  | (with_reducible show Sg.at_ (Sg.setL _ _ _) _ = some _; apply setA; k_places)
  | (with_reducible show Sg.at_ (Sg.setM _ _) _ = some _; apply setMA; k_places)
  | (with_reducible show Sg.at_ (Sg.put _ _ _) _ = some _; apply putA_new; with_reducible assumption; k_places)
  | (apply ESt.at_; with_reducible assumption; k_places)
  | (apply Ext.at'; with_reducible assumption; k_places))
local macro_rules | `(tactic| k_subL) => `(tactic| first
  | (with_reducible show W _ _ _ _ (spliced (backTo _ (starEach [] _))) _ _; refine w_items0 ?_)
  | (with_reducible show W _ _ _ _ (spliced (backTo _ (starEach (_ :: _) _))) _ _; refine w_items ?_)
  | (with_reducible show W _ _ _ _ (eval (Expr.Name _ _) _) _ _; first | refine w_local (by with_unfolding_all rfl) (by k_clsL) ?_ | refine w_cell (by with_unfolding_all rfl) (by k_places) ?_ | (with_reducible show W _ _ _ _ (eval (Expr.Name ("Tree" : Str) _) _) _ _; refine w_glob (v := .ref 142) (by assumption) (by kernel_rfl) ?_) | (with_reducible show W _ _ _ _ (eval (Expr.Name ("Token" : Str) _) _) _ _; refine w_glob (v := .ref 45) (by assumption) (by kernel_rfl) ?_))
  | (with_reducible show W _ _ _ _ (eval (Expr.Call (Expr.Name ("isinstance" : Str) _) _ [] _) _) _ _; refine w_callB (n := "isinstance") (by assumption) boot_isi (by kernel_rfl) ?_)
  | (with_reducible show W _ _ _ _ (eval (Expr.Call (Expr.Name ("len" : Str) _) _ [] _) _) _ _; refine w_callB (n := "len") (by assumption) boot_len (by kernel_rfl) ?_)
  | (with_reducible show W _ _ _ _ (eval (Expr.Call (Expr.Name ("min" : Str) _) _ [] _) _) _ _; refine w_callB (n := "min") (by assumption) boot_min (by kernel_rfl) ?_)
  | (with_reducible show W _ _ _ _ (eval (Expr.Call (Expr.Name ("range" : Str) _) _ [] _) _) _ _; refine w_callT (n := "range") (by assumption) boot_range (by kernel_rfl) ?_)
  | (with_reducible show W _ _ _ _ (eval (Expr.Call (Expr.Name ("str" : Str) _) _ [] _) _) _ _; refine w_callT (n := "str") (by assumption) boot_str (by kernel_rfl) ?_)
  | (with_reducible show W _ _ _ _ (eval (Expr.Call (Expr.Name ("list" : Str) _) _ [] _) _) _ _; refine w_callT (n := "list") (by assumption) boot_list (by kernel_rfl) ?_)
  | (with_reducible show W _ _ _ _ (eval (Expr.Call (Expr.Name ("reversed" : Str) _) _ [] _) _) _ _; refine w_callT (n := "reversed") (by assumption) boot_rev (by kernel_rfl) ?_)
  | (with_reducible show W _ _ _ _ (eval (Expr.Call (Expr.Name ("filter" : Str) _) _ [] _) _) _ _; refine w_callT (n := "filter") (by assumption) boot_filter (by kernel_rfl) ?_)
  | (with_reducible show W _ _ _ _ (call (.builtin "len") [.ref _]) _ _; (refine w_len (by k_places) ?_ fun _ => ?_); rotate_left)
  | (with_reducible show W _ _ _ _ (binaryOp .Add (.int _ _) (.int _ _)) _ _; refine w_addI fun _ => ?_)
  | (with_reducible show W _ _ _ _ (binaryOp .Sub (.int _ _) (.int _ _)) _ _; refine w_subI fun _ => ?_)
  | (with_reducible show W _ _ _ _ (compareOp .Eq (.int _ _) (.int _ _)) _ _; refine w_eqI ?_)
  | (with_reducible show W _ _ _ _ (compareOp .NotEq (.int _ _) (.int _ _)) _ _; refine w_neI ?_)
  | (with_reducible show W _ _ _ _ (compareOp .Lt (.int _ _) (.int _ _)) _ _; refine w_ltI ?_)
  | (with_reducible show W _ _ _ _ (compareOp .Eq (.str _ _) (.str _ _)) _ _; refine w_eqS ?_)
  | (with_reducible show W _ _ _ _ (compareOp .NotEq (.bool _) (.bool _)) _ _; refine w_neB ?_)
  | (with_reducible show W _ _ _ _ (unaryOp .USub (.int _ _)) _ _; refine w_negI fun _ => ?_)
  | (with_reducible show W _ _ _ _ (unaryOp .Not _) _ _; refine w_notv ?_)
  | (with_reducible show W _ _ _ _ (eval (Expr.Attribute _ _ _) _) _ _; refine w_attr ?_)
  | (with_reducible show W _ _ _ _ (eval (Expr.List _ _) _) _ _; refine w_list ?_)
  | (with_reducible show W _ _ _ _ (eval (Expr.Tuple _ _ _) _) _ _; refine w_tuple ?_)
  | (with_reducible show W _ _ _ _ (eval (Expr.BinOp _ _ _ _) _) _ _; refine w_binop ?_)
  | (with_reducible show W _ _ _ _ (eval (Expr.Compare _ [_] [_] _) _) _ _; refine w_cmp ?_)
  | (with_reducible show W _ _ _ _ (eval (Expr.IfExp _ _ _ _) _) _ _; refine w_ifexp ?_)
  | (with_reducible show W _ _ _ _ (eval (Expr.Subscript _ _ _) _) _ _; refine w_sub ?_)
  | (with_reducible show W _ _ _ _ (eval (Expr.UnaryOp _ _ _) _) _ _; refine w_unop ?_)
  | (with_reducible show W _ _ _ _ (eval (Expr.Constant .none _ _) _) _ _; refine w_none ?_)
  | (with_reducible show W _ _ _ _ (eval (Expr.Constant (.bool _) _ _) _) _ _; refine w_tf ?_)
  | (with_reducible show W _ _ _ _ (eval (Expr.Constant (.int _) _ _) _) _ _; refine w_int ?_; intro _)
  | (with_reducible show W _ _ _ _ (eval (Expr.Constant (.str _) _ _) _) _ _; refine w_str ?_; intro _)
  | (with_reducible show W _ _ _ _ (execs [] _) _ _; refine w_nil ?_)
  | (with_reducible show W _ _ _ _ (execs (Stmt.Assign [Expr.Name _ _] (Expr.ListComp _ [Comprehension.mk _ _ _ _] _ _) _ :: _) _) _ _; refine w_cons (w_assignComp ?_))
  | (with_reducible show W _ _ _ _ (execs (Stmt.Assign [Expr.Name _ _] _ _ :: _) _) _ _; refine w_consA ?_)
  | (with_reducible show W _ _ _ _ (execs (Stmt.Assign [Expr.Attribute _ _ _] _ _ :: _) _) _ _; refine w_consAttr ?_)
  | (with_reducible show W _ _ _ _ (execs (Stmt.Assign [Expr.Subscript _ _ _] _ _ :: _) _) _ _; refine w_consSub ?_)
  | (with_reducible show W _ _ _ _ (execs (Stmt.If _ _ [] _ :: _) _) _ _; refine w_consIf ?_)
  | (with_reducible show W _ _ _ _ (execs (Stmt.If _ _ _ _ :: _) _) _ _; refine w_consElse ?_)
  | (with_reducible show W _ _ _ _ (execs (Stmt.Return (some _) _ :: _) _) _ _; refine w_consRet ?_)
  | (with_reducible show W _ _ _ _ (execs (Stmt.Break _ :: _) _) _ _; refine w_consBrk ?_)
  | (with_reducible show W _ _ _ _ (execs (Stmt.Continue _ :: _) _) _ _; refine w_consCont ?_)
  | (with_reducible show W _ _ _ _ (execs (Stmt.Expr (Expr.Call (Expr.Attribute _ _ _) [_] [] _) _ :: _) _) _ _; refine w_consApp ?_)
  | (with_reducible show W _ _ _ _ (execs (Stmt.Expr _ _ :: _) _) _ _; refine w_consE ?_)
  | (with_reducible show W _ _ _ _ (isTrue (Expr.UnaryOp .Not _ _) _ _) _ _; refine w_not ?_)
  | (with_reducible show W _ _ _ _ (isTrue (Expr.BoolOp _ _ _) _ _) _ _; refine w_bool ?_)
  | (with_reducible show W _ _ _ _ (allTrue .And [] _) _ _; refine w_andNil ?_)
  | (with_reducible show W _ _ _ _ (allTrue .Or [] _) _ _; refine w_orNil ?_)
  | (with_reducible show W _ _ _ _ (allTrue .And (_ :: _) _) _ _; refine w_and ?_)
  | (with_reducible show W _ _ _ _ (allTrue .Or (_ :: _) _) _ _; refine w_or ?_)
  | (with_reducible show W _ _ _ _ (isTrue (Expr.Compare _ [_] [_] _) _ _) _ _; refine w_tcmp ?_)
  | (with_reducible show W _ _ _ _ (isTrue _ _ _) _ _; refine w_tval ?_)
  | (with_reducible show W _ _ _ _ (storeName _ _ _) _ _; first | refine w_storeL (by with_unfolding_all rfl) ?_ | refine w_storeC (by with_unfolding_all rfl) (by k_places) ?_)
  | (with_reducible show W _ _ _ _ (tests [_] _) _ _; refine w_tests1 ?_)
  | (with_reducible show W _ _ _ _ (tests [] _) _ _; refine w_tests0 ?_)
  | (with_reducible show W _ _ _ _ (eval (Expr.ListComp _ [Comprehension.mk _ _ _ _] _ _) _) _ _; refine w_listcomp ?_)
  | (with_reducible show W _ _ _ _ (truthy (.bool _)) _ _; refine w_truthyB ?_)
  | (with_reducible show thenK _ _ Flow.next _; refine thenK_next ?_)
  | (with_reducible show thenK _ _ Flow.brk _; refine thenK_brk ?_)
  | (with_reducible show thenK _ _ Flow.cont _; refine thenK_cont ?_)
  | (with_reducible show thenK _ _ (Flow.ret _) _; refine thenK_ret ?_)
  | (with_reducible show turnK _ _ _ Flow.next _; refine turnK_next ?_)
  | (with_reducible show turnK _ _ _ Flow.brk _; refine turnK_brk ?_)
  | (with_reducible show turnK _ _ _ Flow.cont _; refine turnK_cont ?_)
  | (with_reducible show turnK _ _ _ (Flow.ret _) _; refine turnK_ret ?_))

/-- a graph with a tree more -/
def addN (g : Gf) (x : Addr) (nd : Nd) : Gf := fun a => if a = x then some nd else g a
theorem addN_x {g : Gf} {x : Addr} {nd : Nd} : addN g x nd x = some nd := by unfold addN; rw [if_pos rfl]
theorem addN_o {g : Gf} {x a : Addr} {nd : Nd} (h : a ≠ x) : addN g x nd a = g a := by unfold addN; rw [if_neg h]
theorem addN_gr {σ : Sg} {g : Gf} {x : Addr} {nd : Nd} (hG : Gr σ g) (h : NdAt σ x nd) : Gr σ (addN g x nd) := fun a n e => by
  unfold addN at e
  split at e
  · rename_i q; subst q; cases e; exact h
  · exact hG a n e
theorem addN_dp {g : Gf} {x d l : Addr} {nm : Str} {ks : List Addr} {M : Nat} (hx : g x = none) (hall : AllK g) (hk : ∀ c ∈ ks, Dp g M c) (c : Addr) (hc : c ∈ ks) : Dp (addN g x (.node d l nm ks)) M c := by
  have ne : ∀ y, (∃ nd, g y = some nd) → y ≠ x := fun y ⟨nd, e⟩ q => by rw [q, hx] at e; cases e
  exact dp_congr (fun y => y ≠ x) (fun y hy => (addN_o hy).symm) (fun y d l nm ks hy e c hc => ne c (hall _ _ _ _ _ e c hc)) M c (ne c ((hk c hc).some)) (hk c hc)
theorem only_ext {σ τ υ : Sg} {d : Addr} (h : OnlyD τ υ d) (e : Ext σ τ) (hd : σ.at_ d = none) : Ext σ υ := by
  obtain ⟨h1, h2, h3⟩ := h
  obtain ⟨g, e1, e2⟩ := e.gens
  exact ⟨fun a c q => h1 a c (fun r => by rw [r, hd] at q; cases q) (e.at_ _ _ q), g, h2.trans e1, e2⟩

theorem c_equal {b : Base} (G : Glb b) {N : Nat} (hN : 12 ≤ N) {A : Around} {F : Fs} {L l lt : Addr} {ns : List Int} {σ₀ σ : Sg} {rs : List Rec} {tk : List TkR} {r : Rec}
    (R : Rm A (N + 11)) (hF : Frs A F L) (H : RootI b l ns σ₀ σ rs tk r) (hlt : σ.at_ lt = some (.lst ((gtoks (Gof rs tk) N r.a).map .ref))) :
    WC b A F L (.call (.ref 200) ⟨[.ref l, .ref r.a, .ref lt], []⟩) σ fun v σ' => v = .bool true ∧ ESt σ σ' := by
  refine wc_fn1 (fd := fEqual.1) (binds := [("script", Value.ref l), ("root", .ref r.a), ("tokens", .ref lt)]) G (fEqual.2 _) (by kernel_rfl) rfl R.dep rfl fun L' => ?_
  show W _ _ _ _ _ _ _
  have hF2 := hF.deeper (L' := L') (f := 200) (m := σ.m) (fd := fEqual.1) (cs := fEqual.1.closure) rfl
  have R2 := R.deeper (e := fnEnv fEqual.1 L' fEqual.1.closure 200)
  refine W.mono (Q := QE σ) ?_ fun fl τ ⟨h1, h2⟩ => ⟨by rw [h1]; rfl, h2.setM, rfl⟩
  have eI : Ext σ ((((σ.setM fun _ => none).setL "script" (.ref l)).setL "root" (.ref r.a)).setL "tokens" (.ref lt)) := by k_offL
  have sI : ((((σ.setM fun _ => none).setL "script" (.ref l)).setL "root" (.ref r.a)).setL "tokens" (.ref lt)).m "script" = some (.ref l) := by k_clsL
  have rI : ((((σ.setM fun _ => none).setL "script" (.ref l)).setL "root" (.ref r.a)).setL "tokens" (.ref lt)).m "root" = some (.ref r.a) := by k_clsL
  have tI : ((((σ.setM fun _ => none).setL "script" (.ref l)).setL "root" (.ref r.a)).setL "tokens" (.ref lt)).m "tokens" = some (.ref lt) := by k_clsL
  generalize ((((σ.setM fun _ => none).setL "script" (.ref l)).setL "root" (.ref r.a)).setL "tokens" (.ref lt)) = τ0 at eI sI rI tI
  show W b (A.deeper (fnEnv fEqual.1 L' fEqual.1.closure 200)) ((L, .ns σ.m) :: F) L' _ τ0 (QE σ)
  generalize A.deeper (fnEnv fEqual.1 L' fEqual.1.closure 200) = A2 at hF2 R2 ⊢
  generalize hF' : ((L, Kp.ns σ.m) :: F) = F2 at hF2 ⊢
  obtain ⟨vs, hl, hi⟩ := H.scr
  obtain ⟨M, rfl⟩ : ∃ M, N = M + 1 := ⟨N - 1, by omega⟩
  repeat k_subL
  refine w_call0 (f := 153) G (by kernel_rfl) ?_
  repeat k_subL
  refine WC.call (WC.mono (c_built G hl hi H.n63 (R2.le (m := M + 6) (by omega))) fun v τ1 ⟨ll, rs2, tk2, hv, hll0, _, hll, X2, hE1⟩ => ?_)
  subst hv
  obtain ⟨q, H2⟩ := twin_root hl hi H.n63 X2
  repeat k_subL
  refine w_item (k := 0) (v := .ref q.a) hll (by rw [List.getElem?_map, H2.hr0]; rfl) (by have := H2.gb.n12; simp at this ⊢; omega) ?_
  repeat k_subL
  have e1 : Ext σ (τ1.setL "twin" (.ref q.a)) := by k_offL
  have s1 : (τ1.setL "twin" (.ref q.a)).m "script" = some (.ref l) := by k_clsL
  have r1 : (τ1.setL "twin" (.ref q.a)).m "root" = some (.ref r.a) := by k_clsL
  have t1 : (τ1.setL "twin" (.ref q.a)).m "tokens" = some (.ref lt) := by k_clsL
  have m1 : (τ1.setL "twin" (.ref q.a)).m "twin" = some (.ref q.a) := by k_clsL
  have X1 : Bld τ0 (τ1.setL "twin" (.ref q.a)) (built ns) rs2 tk2 := X2.ext (Ext.setL Ext.rfl)
  generalize (τ1.setL "twin" (.ref q.a)) = τ2 at e1 s1 r1 t1 m1 X1 ⊢
  have heq := H.eq H2 hN
  refine w_eqT (g := Gof rs tk) (h := Gof rs2 tk2) (n := M + 1) G (R2.le (by omega)) ⟨H.bld.gr.ext e1, X1.gr, H.dp hN, H2.dp hN, H.e, H2.e, hF2, len20 H.gb, len20 H2.gb⟩ fun τ3 hE3 => ?_
  rw [heq]
  repeat k_subL
  refine ⟨fun hx => (nomatch hx), fun _ => ?_⟩
  repeat k_subL
  have e3 := e1.trans hE3.1
  refine w_neT (g := Gof rs tk) (h := Gof rs2 tk2) (n := M + 1) G (R2.le (by omega)) ⟨H.bld.gr.ext e3, X1.gr.ext hE3.1, H.dp hN, H2.dp hN, H.e, H2.e, hF2, len20 H.gb, len20 H2.gb⟩ fun τ4 hE4 => ?_
  rw [heq]
  repeat k_subL
  refine ⟨fun hx => (nomatch hx), fun _ => ?_⟩
  repeat k_subL
  have e4 := e3.trans hE4.1
  refine w_eqN G (R2.le (m := M + 6) (by omega)) hF2 ((H.bld.gr.ext e4) _ _ H.e) fun τ5 hE5 => ?_
  repeat k_subL
  refine ⟨fun hx => (nomatch hx), fun _ => ?_⟩
  repeat k_subL
  have e5 := e4.trans hE5.1
  refine w_data G ((H.bld.gr.ext e5) _ _ H.e) fun _ => ?_
  refine w_eqW G (R2.le (m := M + 6) (by omega)) hF2 ((H.bld.gr.ext e5) _ _ H.e) fun τ6 hE6 => ?_
  repeat k_subL
  refine ⟨fun hx => (nomatch hx), fun _ => ?_⟩
  repeat k_subL
  refine ⟨fun hx => (nomatch hx), fun _ => ?_⟩
  have e6 := e5.trans hE6.1
  have s6 : τ6.m "script" = some (.ref l) := by k_clsL
  have r6 : τ6.m "root" = some (.ref r.a) := by k_clsL
  have t6 : τ6.m "tokens" = some (.ref lt) := by k_clsL
  have m6 : τ6.m "twin" = some (.ref q.a) := by k_clsL
  have X6 := X1.ext (((hE3.1.trans hE4.1).trans hE5.1).trans hE6.1)
  clear hE3 hE4 hE5 hE6 e1 e3 e4 e5 s1 r1 t1 m1 X1
  repeat k_subL
  refine w_callM ?_
  repeat k_subL
  have hR6 := (H.bld.gr.ext e6)
  refine w_meth (f := 132) G (hR6 _ _ H.e) (by kernel_rfl) (by kernel_rfl) ⟨by decide, by decide, by decide⟩ ?_
  refine w_cwK G (by kernel_rfl) ?_
  repeat k_subL
  refine WC.call (WC.mono (c_copy G (R2.le (m := M + 6) (by omega)) (hR6 _ _ H.e)) fun v τ7 ⟨x, d', hv, hx, hd', nx, hE7⟩ => ?_)
  subst hv
  have e7 := e6.trans hE7.1
  have hgx : Gof rs tk x = none := gr_fresh hR6 hx
  have hR7 := hR6.ext hE7.1
  have hGX : Gr τ7 (addN (Gof rs tk) x (.node d' r.l r.nm r.ks)) := addN_gr hR7 nx
  have hne : x ≠ r.a := fun e => by rw [e, H.e] at hgx; cases hgx
  obtain ⟨M', hM, hdk⟩ := dp_pred (H.dp hN) H.e
  obtain rfl : M = M' := by omega
  have hdx := addN_dp (d := d') (l := r.l) (nm := r.nm) hgx H.gb.all_ hdk
  have hDx : Dp (addN (Gof rs tk) x (.node d' r.l r.nm r.ks)) (M + 1) x := by unfold Dp; rw [addN_x]; exact hdx
  have hlx : ∀ p d l nm ks, addN (Gof rs tk) x (.node d' r.l r.nm r.ks) p = some (.node d l nm ks) → ks.length ≤ 2 ^ 20 := fun p d l nm ks e => by
    unfold addN at e
    split at e
    · cases e; exact len20 H.gb _ _ _ _ _ H.e
    · exact len20 H.gb _ _ _ _ _ e
  have qx : eqv (addN (Gof rs tk) x (.node d' r.l r.nm r.ks)) (Gof rs tk) (M + 1) x r.a = true := by
    rw [eqv_node addN_x H.e, beq_self_eq_true, Bool.true_and]
    refine allZ_of rfl fun i u w hu hw => ?_
    rw [hu] at hw; cases hw
    have hm := List.mem_of_getElem? hu
    exact eqv_self hGX hR7 M u (hdx u hm) (hdk u hm)
  have s7 : (τ7.setL "again" (.ref x)).m "script" = some (.ref l) := by k_clsL
  have r7 : (τ7.setL "again" (.ref x)).m "root" = some (.ref r.a) := by k_clsL
  have t7 : (τ7.setL "again" (.ref x)).m "tokens" = some (.ref lt) := by k_clsL
  have m7 : (τ7.setL "again" (.ref x)).m "twin" = some (.ref q.a) := by k_clsL
  have a7 : (τ7.setL "again" (.ref x)).m "again" = some (.ref x) := by k_clsL
  have e7' : Ext σ (τ7.setL "again" (.ref x)) := e7.setL
  have x7 : Ext τ6 (τ7.setL "again" (.ref x)) := hE7.1.setL
  have hGX' := hGX.ext (Ext.setL (n := "again") (v := .ref x) Ext.rfl)
  have nx' := nx.ext (Ext.setL (n := "again") (v := .ref x) Ext.rfl)
  refine w_storeL (by with_unfolding_all rfl) ?_
  show W b A2 F2 L' _ (τ7.setL "again" (.ref x)) _
  generalize (τ7.setL "again" (.ref x)) = τ8 at s7 r7 t7 m7 a7 e7' x7 hGX' nx' ⊢
  clear hE7 hGX hR7 e7 nx
  obtain ⟨⟨tx, nx1, nx2⟩, nx3⟩ := nx'
  repeat k_subL
  obtain ⟨⟨tr, nr1, nr2⟩, nr3⟩ := (H.bld.gr.ext e7') _ _ H.e
  refine w_is nx1 nr1 ?_
  rw [show decide (x = r.a) = false from decide_eq_false hne]
  repeat k_subL
  refine ⟨fun hx => (nomatch hx), fun _ => ?_⟩
  repeat k_subL
  refine w_eqT (g := addN (Gof rs tk) x (.node d' r.l r.nm r.ks)) (h := Gof rs tk) (n := M + 1) G (R2.le (by omega)) ⟨hGX', H.bld.gr.ext e7', hDx, H.dp hN, addN_x, H.e, hF2, hlx, len20 H.gb⟩ fun τ9 hE9 => ?_
  rw [qx]
  repeat k_subL
  refine ⟨fun hx => (nomatch hx), fun _ => ?_⟩
  repeat k_subL
  refine ⟨fun hx => (nomatch hx), fun _ => ?_⟩
  have e9 := e7'.trans hE9.1
  have s9 : τ9.m "script" = some (.ref l) := by k_clsL
  have r9 : τ9.m "root" = some (.ref r.a) := by k_clsL
  have t9 : τ9.m "tokens" = some (.ref lt) := by k_clsL
  have m9 : τ9.m "twin" = some (.ref q.a) := by k_clsL
  have a9 : τ9.m "again" = some (.ref x) := by k_clsL
  have x9 : Ext τ6 τ9 := x7.trans hE9.1
  have n9 : NdAt τ9 x (.node d' r.l r.nm r.ks) := ⟨⟨tx, hE9.1.at_ _ _ nx1, hE9.1.at_ _ _ nx2⟩, hE9.1.at_ _ _ nx3⟩
  clear nx1 nx2 nx3 nr1 nr2 nr3 s7 r7 t7 m7 a7 hE9 hGX' x7 e7'
  repeat k_subL
  refine w_callM ?_
  repeat k_subL
  refine w_meth (f := 139) G n9 (by kernel_rfl) (by kernel_rfl) ⟨by decide, by decide, by decide⟩ ?_
  refine w_cwK G (by kernel_rfl) ?_
  repeat k_subL
  refine w_newList (by rw [sizeLine_eq]; simp) fun l0 hl0 => ?_
  repeat k_subL
  refine WC.call (WC.mono (c_set (ks' := []) G (R2.le (m := M + 6) (by omega)) (n9.ext (Ext.new hl0)) putA_same) fun v τA ⟨hv, nA, oA⟩ => ?_)
  subst hv
  refine ⟨(fun a e => nomatch e), ?_⟩
  have hdσ : σ.at_ d' = none := Ext.back e6 hd'
  have eA : Ext σ τA := only_ext oA (e9.put hl0) hdσ
  have xA : Ext τ6 τA := only_ext oA (x9.put hl0) hd'
  have sA : τA.m "script" = some (.ref l) := by rw [oA.2.2]; exact s9
  have rA : τA.m "root" = some (.ref r.a) := by rw [oA.2.2]; exact r9
  have tA : τA.m "tokens" = some (.ref lt) := by rw [oA.2.2]; exact t9
  have mA : τA.m "twin" = some (.ref q.a) := by rw [oA.2.2]; exact m9
  have aA : τA.m "again" = some (.ref x) := by rw [oA.2.2]; exact a9
  have XA := X6.ext xA
  clear oA s9 r9 t9 m9 a9 n9 hl0
  refine w_consIfP (fun τ => EqI σ l r.a lt τ ∧ τ.m "twin" = some (.ref q.a) ∧ Bld τ0 τ (built ns) rs2 tk2) ?_ ?_
  · repeat k_subL
    refine w_neT (g := Gof rs tk) (h := Gof rs2 tk2) (n := M + 1) G (R2.le (by omega)) ⟨H.bld.gr.ext eA, XA.gr, H.dp hN, H2.dp hN, H.e, H2.e, hF2, len20 H.gb, len20 H2.gb⟩ fun τB hEB => ?_
    rw [heq]
    repeat k_subL
    refine ⟨fun hx => (nomatch hx), fun _ => ?_⟩
    repeat k_subL
    have nB := nA.ext hEB.1
    refine w_data G nB fun tc => ?_
    repeat k_subL
    refine w_neS ?_
    repeat k_subL
    refine ⟨fun hx => ?_, fun _ => ?_⟩
    · exact absurd hx (by decide)
    repeat k_subL
    refine w_children G nB ?_
    repeat k_subL
    refine w_newList (by rw [sizeLine_eq]; simp) fun l1 hl1 => ?_
    repeat k_subL
    refine w_ne0 (xs := []) (by have := R2.r.units; omega) (putA_new hl1 nB.2) putA_same ?_
    repeat k_subL
    refine ⟨fun hx => (nomatch hx), fun _ => ?_⟩
    repeat k_subL
    refine ⟨fun hx => (nomatch hx), fun _ => ?_⟩
    exact ⟨⟨(eA.trans hEB.1).put hl1, by k_clsL, by k_clsL, by k_clsL⟩, by k_clsL, XA.ext (hEB.1.put hl1)⟩
  · rintro τB ⟨IB, mB, XB⟩
    exact eq_p6 (body := _) G hN rfl R2 hF2 H IB hlt eI ⟨⟨vs, hl, hi⟩, H.n63, XB, H2.hr⟩ mB
end PartC30

section PartC31
open PySem PySem.W PyProof.Rows PySem.Calls
set_option maxRecDepth 100000
set_option maxHeartbeats 400000
set_option linter.unusedVariables false

local macro_rules | `(tactic| k_clsL) => `(tactic| first
  | with_reducible assumption
  | (with_reducible show Sg.m (Sg.setL _ _ _) _ = some _; first | with_reducible exact getL_same | (apply getL_skip; with_unfolding_all decide; k_clsL))
  | (with_reducible show Sg.m (Sg.put _ _ _) _ = some _; apply putM; k_clsL)
  | (with_reducible show Sg.m (Sg.del _ _) _ = some _; apply delM; k_clsL)
  | (with_reducible show Sg.m (Sg.setM _ _) _ = some _; apply setMM; k_clsL)
  | (apply viaM; with_reducible assumption; k_clsL)
  | (apply viaE; with_reducible assumption; k_clsL))
local macro_rules | `(tactic| k_offL) => `(tactic| first
  | with_reducible assumption
  | with_reducible exact Ext.rfl
  | (with_reducible show Ext _ (Sg.setL _ _ _); refine Ext.setL ?_; k_offL)
  | (with_reducible show Ext _ (Sg.put _ _ _); refine Ext.put ?_ (by first | with_reducible assumption | with_reducible exact setA (by with_reducible assumption)); k_offL)
  | (with_reducible show Ext _ (Sg.setM _ _); refine Ext.setM ?_; k_offL)
  | (with_reducible refine Ext.tr (by with_reducible assumption) ?_; k_offL)
  | (with_reducible refine Ext.tr2 (by with_reducible assumption) ?_; k_offL))
local macro_rules | `(tactic| k_places) => `(tactic| first
  | with_reducible assumption
  | with_reducible exact putA_same
  | (with_reducible show Sg.at_ (Sg.setL _ _ _) _ = some _; apply setA; k_places)
  | (with_reducible show Sg.at_ (Sg.setM _ _) _ = some _; apply setMA; k_places)
  | (with_reducible show Sg.at_ (Sg.put _ _ _) _ = some _; apply putA_new; with_reducible assumption; k_places)
  | (apply ESt.at_; with_reducible assumption; k_places)
  | (apply Ext.at'; with_reducible assumption; k_places))
local macro_rules | `(tactic| k_subL) => `(tactic| first
  | (with_reducible show W _ _ _ _ (spliced (backTo _ (starEach [] _))) _ _; refine w_items0 ?_)
  | (with_reducible show W _ _ _ _ (spliced (backTo _ (starEach (_ :: _) _))) _ _; refine w_items ?_)
  | (with_reducible show W _ _ _ _ (eval (Expr.Name _ _) _) _ _; first | refine w_local (by with_unfolding_all rfl) (by k_clsL) ?_ | refine w_cell (by with_unfolding_all rfl) (by k_places) ?_ | (with_reducible show W _ _ _ _ (eval (Expr.Name ("Tree" : Str) _) _) _ _; refine w_glob (v := .ref 142) (by assumption) (by kernel_rfl) ?_) | (with_reducible show W _ _ _ _ (eval (Expr.Name ("Token" : Str) _) _) _ _; refine w_glob (v := .ref 45) (by assumption) (by kernel_rfl) ?_))
  | (with_reducible show W _ _ _ _ (eval (Expr.Call (Expr.Name ("isinstance" : Str) _) _ [] _) _) _ _; refine w_callB (n := "isinstance") (by assumption) boot_isi (by kernel_rfl) ?_)
  | (with_reducible show W _ _ _ _ (eval (Expr.Call (Expr.Name ("len" : Str) _) _ [] _) _) _ _; refine w_callB (n := "len") (by assumption) boot_len (by kernel_rfl) ?_)
  | (with_reducible show W _ _ _ _ (eval (Expr.Call (Expr.Name ("min" : Str) _) _ [] _) _) _ _; refine w_callB (n := "min") (by assumption) boot_min (by kernel_rfl) ?_)
  | (with_reducible show W _ _ _ _ (eval (Expr.Call (Expr.Name ("range" : Str) _) _ [] _) _) _ _; refine w_callT (n := "range") (by assumption) boot_range (by kernel_rfl) ?_)
  | (with_reducible show W _ _ _ _ (eval (Expr.Call (Expr.Name ("str" : Str) _) _ [] _) _) _ _; refine w_callT (n := "str") (by assumption) boot_str (by kernel_rfl) ?_)
  | (with_reducible show W _ _ _ _ (eval (Expr.Call (Expr.Name ("list" : Str) _) _ [] _) _) _ _; refine w_callT (n := "list") (by assumption) boot_list (by kernel_rfl) ?_)
  | (with_reducible show W _ _ _ _ (eval (Expr.Call (Expr.Name ("reversed" : Str) _) _ [] _) _) _ _; refine w_callT (n := "reversed") (by assumption) boot_rev (by kernel_rfl) ?_)
  | (with_reducible show W _ _ _ _ (eval (Expr.Call (Expr.Name ("filter" : Str) _) _ [] _) _) _ _; refine w_callT (n := "filter") (by assumption) boot_filter (by kernel_rfl) ?_)
  | (with_reducible show W _ _ _ _ (call (.builtin "len") [.ref _]) _ _; (refine w_len (by k_places) ?_ fun _ => ?_); rotate_left)
  | (with_reducible show W _ _ _ _ (binaryOp .Add (.int _ _) (.int _ _)) _ _; refine w_addI fun _ => ?_)
  | (with_reducible show W _ _ _ _ (binaryOp .Sub (.int _ _) (.int _ _)) _ _; refine w_subI fun _ => ?_)
  | (with_reducible show W _ _ _ _ (compareOp .Eq (.int _ _) (.int _ _)) _ _; refine w_eqI ?_)
  | (with_reducible show W _ _ _ _ (compareOp .NotEq (.int _ _) (.int _ _)) _ _; refine w_neI ?_)
  | (with_reducible show W _ _ _ _ (compareOp .Lt (.int _ _) (.int _ _)) _ _; refine w_ltI ?_)
  | (with_reducible show W _ _ _ _ (compareOp .Eq (.str _ _) (.str _ _)) _ _; refine w_eqS ?_)
  | (with_reducible show W _ _ _ _ (compareOp .NotEq (.bool _) (.bool _)) _ _; refine w_neB ?_)
  | (with_reducible show W _ _ _ _ (unaryOp .USub (.int _ _)) _ _; refine w_negI fun _ => ?_)
  | (with_reducible show W _ _ _ _ (unaryOp .Not _) _ _; refine w_notv ?_)
  | (with_reducible show W _ _ _ _ (eval (Expr.Attribute _ _ _) _) _ _; refine w_attr ?_)
  | (with_reducible show W _ _ _ _ (eval (Expr.List _ _) _) _ _; refine w_list ?_)
  | (with_reducible show W _ _ _ _ (eval (Expr.Tuple _ _ _) _) _ _; refine w_tuple ?_)
  | (with_reducible show W _ _ _ _ (eval (Expr.BinOp _ _ _ _) _) _ _; refine w_binop ?_)
  | (with_reducible show W _ _ _ _ (eval (Expr.Compare _ [_] [_] _) _) _ _; refine w_cmp ?_)
  | (with_reducible show W _ _ _ _ (eval (Expr.IfExp _ _ _ _) _) _ _; refine w_ifexp ?_)
  | (with_reducible show W _ _ _ _ (eval (Expr.Subscript _ _ _) _) _ _; refine w_sub ?_)
  | (with_reducible show W _ _ _ _ (eval (Expr.UnaryOp _ _ _) _) _ _; refine w_unop ?_)
  | (with_reducible show W _ _ _ _ (eval (Expr.Constant .none _ _) _) _ _; refine w_none ?_)
  | (with_reducible show W _ _ _ _ (eval (Expr.Constant (.bool _) _ _) _) _ _; refine w_tf ?_)
  | (with_reducible show W _ _ _ _ (eval (Expr.Constant (.int _) _ _) _) _ _; refine w_int ?_; intro _)
  | (with_reducible show W _ _ _ _ (eval (Expr.Constant (.str _) _ _) _) _ _; refine w_str ?_; intro _)
  | (with_reducible show W _ _ _ _ (execs [] _) _ _; refine w_nil ?_)
  | (with_reducible show W _ _ _ _ (execs (Stmt.Assign [Expr.Name _ _] (Expr.ListComp _ [Comprehension.mk _ _ _ _] _ _) _ :: _) _) _ _; refine w_cons (w_assignComp ?_))
  | (with_reducible show W _ _ _ _ (execs (Stmt.Assign [Expr.Name _ _] _ _ :: _) _) _ _; refine w_consA ?_)
  | (with_reducible show W _ _ _ _ (execs (Stmt.Assign [Expr.Attribute _ _ _] _ _ :: _) _) _ _; refine w_consAttr ?_)
  | (with_reducible show W _ _ _ _ (execs (Stmt.Assign [Expr.Subscript _ _ _] _ _ :: _) _) _ _; refine w_consSub ?_)
  | (with_reducible show W _ _ _ _ (execs (Stmt.If _ _ [] _ :: _) _) _ _; refine w_consIf ?_)
  | (with_reducible show W _ _ _ _ (execs (Stmt.If _ _ _ _ :: _) _) _ _; refine w_consElse ?_)
  | (with_reducible show W _ _ _ _ (execs (Stmt.Return (some _) _ :: _) _) _ _; refine w_consRet ?_)
  | (with_reducible show W _ _ _ _ (execs (Stmt.Break _ :: _) _) _ _; refine w_consBrk ?_)
  | (with_reducible show W _ _ _ _ (execs (Stmt.Continue _ :: _) _) _ _; refine w_consCont ?_)
  | (with_reducible show W _ _ _ _ (execs (Stmt.Expr (Expr.Call (Expr.Attribute _ _ _) [_] [] _) _ :: _) _) _ _; refine w_consApp ?_)
  | (with_reducible show W _ _ _ _ (execs (Stmt.Expr _ _ :: _) _) _ _; refine w_consE ?_)
  | (with_reducible show W _ _ _ _ (isTrue (Expr.UnaryOp .Not _ _) _ _) _ _; refine w_not ?_)
  | (with_reducible show W _ _ _ _ (isTrue (Expr.BoolOp _ _ _) _ _) _ _; refine w_bool ?_)
  | (with_reducible show W _ _ _ _ (allTrue .And [] _) _ _; refine w_andNil ?_)
  | (with_reducible show W _ _ _ _ (allTrue .Or [] _) _ _; refine w_orNil ?_)
  | (with_reducible show W _ _ _ _ (allTrue .And (_ :: _) _) _ _; refine w_and ?_)
  | (with_reducible show W _ _ _ _ (allTrue .Or (_ :: _) _) _ _; refine w_or ?_)
  | (with_reducible show W _ _ _ _ (isTrue (Expr.Compare _ [_] [_] _) _ _) _ _; refine w_tcmp ?_)
  | (with_reducible show W _ _ _ _ (isTrue _ _ _) _ _; refine w_tval ?_)
  | (with_reducible show W _ _ _ _ (storeName _ _ _) _ _; first | refine w_storeL (by with_unfolding_all rfl) ?_ | refine w_storeC (by with_unfolding_all rfl) (by k_places) ?_)
  | (with_reducible show W _ _ _ _ (tests [_] _) _ _; refine w_tests1 ?_)
  | (with_reducible show W _ _ _ _ (tests [] _) _ _; refine w_tests0 ?_)
  | (with_reducible show W _ _ _ _ (eval (Expr.ListComp _ [Comprehension.mk _ _ _ _] _ _) _) _ _; refine w_listcomp ?_)
  | (with_reducible show W _ _ _ _ (truthy (.bool _)) _ _; refine w_truthyB ?_)
  | (with_reducible show thenK _ _ Flow.next _; refine thenK_next ?_)
  | (with_reducible show thenK _ _ Flow.brk _; refine thenK_brk ?_)
  | (with_reducible show thenK _ _ Flow.cont _; refine thenK_cont ?_)
  | (with_reducible show thenK _ _ (Flow.ret _) _; refine thenK_ret ?_)
  | (with_reducible show turnK _ _ _ Flow.next _; refine turnK_next ?_)
  | (with_reducible show turnK _ _ _ Flow.brk _; refine turnK_brk ?_)
  | (with_reducible show turnK _ _ _ Flow.cont _; refine turnK_cont ?_)
  | (with_reducible show turnK _ _ _ (Flow.ret _) _; refine turnK_ret ?_))

section
variable {b : Base} {A : Around} {F : Fs} {L : Addr} {σ : Sg} {env : Env}
theorem w_lenT {a : Addr} {vs : List Value} {Q : Value → Sg → Prop} (ht : σ.at_ a = some (.obj (tupObj vs))) (hz : vs.length < 2 ^ 62) (h : ∀ t, Q (.int vs.length t) σ) : W b A F L (call (.builtin "len") [.ref a]) σ Q := fun s E y => by
  have T : IsTup s.heap a vs.toArray := ⟨_, y.cl _ _ ht, rfl, 0, rfl⟩
  exact PyProof.Rows.len_tuple T (by simp; omega) ⟨σ, y.toks _, by have := h (s.toks + 1); simpa using this⟩
theorem w_consElseP {test body els pos rest} {Q : Flow → Sg → Prop} (P : Sg → Prop) (h : W b A F L (isTrue test env (eval test env)) σ fun t σ' => (t = true → W b A F L (execs body env) σ' (thenK P Q)) ∧ (t = false → W b A F L (execs els env) σ' (thenK P Q)))
    (hr : ∀ τ, P τ → W b A F L (execs rest env) τ Q) : W b A F L (execs (.If test body els pos :: rest) env) σ Q :=
  w_consElse (W.mono h fun t σ' q => ⟨fun e => W.mono (q.1 e) fun fl σ'' q => by cases fl <;> first | exact hr _ q | exact q, fun e => W.mono (q.2 e) fun fl σ'' q => by cases fl <;> first | exact hr _ q | exact q⟩)
end
theorem ext_putBoth {σ τ : Sg} {l : Addr} {c : Cl} (e : Ext σ τ) : Ext (σ.put l c) (τ.put l c) := ⟨fun a cc h => by
  by_cases q : a = l
  · subst q; rw [putA_same] at h ⊢; exact h
  · have h1 : σ.at_ a = some cc := by simpa [Sg.put, q] using h
    exact putA_ne q (e.at_ a cc h1), e.gens⟩
theorem Th.of {σ : Sg} {a : Addr} {nd : Nd} (h : NdAt σ a nd) : Th σ a := by
  cases nd with
  | node d l nm ks => obtain ⟨⟨t, h1, h2⟩, h3⟩ := h; exact ⟨_, _, h1⟩
  | tok d k v => obtain ⟨t, u, h1, h2⟩ := h; exact ⟨_, _, h1⟩
theorem named_len {g : Gf} {as : List Addr} (B : Gb g as) {nms : List Str} {c : Addr} : ((named g nms c).getD [c]).length ≤ 11 := by
  unfold named
  split
  · rename_i e
    split
    · exact B.klen e
    · simp
  · simp
theorem gopen_len {g : Gf} {as : List Addr} (B : Gb g as) {nms : List Str} {ks : List Addr} (hk : ks.length ≤ 11) : (gopen g nms ks).length ≤ 121 := by
  have h1 := len_flatMap_le (f := fun k => (named g nms k).getD [k]) (h := fun _ => 11) ks fun x _ => named_len B
  have h2 := sum_le_mul (f := fun _ : Addr => 11) (m := 11) ks fun _ _ => Nat.le_refl _
  show (ks.flatMap fun k => (named g nms k).getD [k]).length ≤ 121
  omega
theorem gopen_ex {g : Gf} {as : List Addr} (B : Gb g as) {nms : List Str} {a d l : Addr} {nm : Str} {ks : List Addr} (e : g a = some (.node d l nm ks)) : ∀ x ∈ gopen g nms ks, ∃ nd, g x = some nd := fun x hx => by
  unfold gopen at hx
  obtain ⟨k, hk, hx⟩ := List.mem_flatMap.mp hx
  unfold named at hx
  split at hx
  · rename_i e2
    split at hx
    · exact B.all_ _ _ _ _ _ e2 x hx
    · simp at hx; subst hx; exact B.all_ _ _ _ _ _ e x hk
  · simp at hx; subst hx; exact B.all_ _ _ _ _ _ e x hk

/-- the tables of lambdas stand -/
def Tabs (τ : Sg) : Prop := TabAt 99 τ ∧ TabAt 106 τ ∧ TabAt 202 τ
theorem Tabs.ext {σ τ : Sg} (h : Tabs σ) (e : Ext σ τ) : Tabs τ := ⟨h.1.ext e, h.2.1.ext e, h.2.2.ext e⟩
theorem TabAt.put {P a : Addr} {σ : Sg} {c c₀ : Cl} (h : TabAt P σ) (ha : σ.at_ a = some c₀) (hn : ∀ ps, c₀ ≠ .obj (tabObj ps)) : TabAt P (σ.put a c) := h.imp fun ps h => putA_ne (fun q => by rw [q, ha] at h; cases h; exact hn _ rfl) h
theorem Tabs.put {a : Addr} {σ : Sg} {c c₀ : Cl} (h : Tabs σ) (ha : σ.at_ a = some c₀) (hn : ∀ ps, c₀ ≠ .obj (tabObj ps)) : Tabs (σ.put a c) := ⟨h.1.put ha hn, h.2.1.put ha hn, h.2.2.put ha hn⟩
/-- how the law ends -/
def QL : Flow → Sg → Prop := fun fl τ => fl = .ret (.bool true) ∧ Tabs τ
/-- what a call of expand leaves -/
structure Aft (g : Gf) (r : Rec) (nms : List Str) (τ τ' : Sg) : Prop where
  ext : Ext (τ.put r.l (.lst ((gopen g nms r.ks).map .ref))) τ'
theorem expand_step {b : Base} (G : Glb b) {N : Nat} {A : Around} {F : Fs} {L : Addr} {ns : List Int} {σ₀ τ : Sg} {rs : List Rec} {tk : List TkR} {r : Rec} {vs : List Value} {nms : List Str} (R : Rm A (N + 1)) (X : Bld σ₀ τ (built ns) rs tk) (hr : rs[0]? = some r) (hs : StrsAre vs nms)
    (hb : ∀ Q : List (Str × Value) → Sg → Prop, (∀ nt, τ.at_ nt = none → Q [("self", .ref r.a), ("data_values", .ref nt)] (τ.put nt (.obj (tupObj vs)))) → W b A.in1 F L (bindArgs fExpand.1 ⟨.ref r.a :: vs, []⟩) τ Q) :
    WC b A F L (.call (.ref 118) ⟨.ref r.a :: vs, []⟩) τ fun v τ' => v = .bool (r.ks.any fun c => (named (Gof rs tk) nms c).isSome) ∧ ESt (τ.put r.l (.lst ((gopen (Gof rs tk) nms r.ks).map .ref))) τ' := by
  have hm := List.mem_of_getElem? hr
  have e := X.gof hm
  have B := X.gb (BlOk.built ns)
  have hk := B.klen e
  have hr0 : (rs.map (·.a))[0]? = some r.a := by rw [List.getElem?_map, hr]; rfl
  refine c_expand G R X.gr e (fun c hc => B.all_ _ _ _ _ _ e c hc) hs (by have := gopen_len B (nms := nms) hk; omega) (by omega) (fun c hc d' l' nm' ks' ec => ⟨fun q => ?_, by have := B.klen ec; omega⟩) hb
  have := B.sep _ _ _ _ _ _ _ _ _ _ ec e (.inl q)
  exact B.noroot hr0 _ _ _ _ _ e c hc this
end PartC31

section PartC32
open PySem PySem.W PyProof.Rows PySem.Calls
set_option maxRecDepth 100000
set_option maxHeartbeats 400000
set_option linter.unusedVariables false

local macro_rules | `(tactic| k_clsL) => `(tactic| first
  | with_reducible assumption
  | (with_reducible show Sg.m (Sg.setL _ _ _) _ = some _; first | with_reducible exact getL_same | (apply getL_skip; with_unfolding_all decide; k_clsL))
  | (with_reducible show Sg.m (Sg.put _ _ _) _ = some _; apply putM; k_clsL)
  | (with_reducible show Sg.m (Sg.del _ _) _ = some _; apply delM; k_clsL)
  | (with_reducible show Sg.m (Sg.setM _ _) _ = some _; apply setMM; k_clsL)
  | (apply viaM; with_reducible assumption; k_clsL)
  | (apply viaE; with_reducible assumption; k_clsL))
local macro_rules | `(tactic| k_offL) => `(tactic| first
  | with_reducible assumption
  | with_reducible exact Ext.rfl
  | (with_reducible show Ext _ (Sg.setL _ _ _); refine Ext.setL ?_; k_offL)
  | (with_reducible show Ext _ (Sg.put _ _ _); refine Ext.put ?_ (by first | with_reducible assumption | with_reducible exact setA (by with_reducible assumption)); k_offL)
  | (with_reducible show Ext _ (Sg.setM _ _); refine Ext.setM ?_; k_offL)
  | (with_reducible refine Ext.tr (by with_reducible assumption) ?_; k_offL)
  | (with_reducible refine Ext.tr2 (by with_reducible assumption) ?_; k_offL))
local macro_rules | `(tactic| k_places) => `(tactic| first
  | with_reducible assumption
  | with_reducible exact putA_same
  | (with_reducible show Sg.at_ (Sg.setL _ _ _) _ = some _; apply setA; k_places)
  | (with_reducible show Sg.at_ (Sg.setM _ _) _ = some _; apply setMA; k_places)
  | (with_reducible show Sg.at_ (Sg.put _ _ _) _ = some _; apply putA_new; with_reducible assumption; k_places)
  | (apply ESt.at_; with_reducible assumption; k_places)
  | (apply Ext.at'; with_reducible assumption; k_places))
local macro_rules | `(tactic| k_subL) => `(tactic| first
  | (with_reducible show W _ _ _ _ (spliced (backTo _ (starEach [] _))) _ _; refine w_items0 ?_)
  | (with_reducible show W _ _ _ _ (spliced (backTo _ (starEach (_ :: _) _))) _ _; refine w_items ?_)
  | (with_reducible show W _ _ _ _ (eval (Expr.Name _ _) _) _ _; first | refine w_local (by with_unfolding_all rfl) (by k_clsL) ?_ | refine w_cell (by with_unfolding_all rfl) (by k_places) ?_ | (with_reducible show W _ _ _ _ (eval (Expr.Name ("Tree" : Str) _) _) _ _; refine w_glob (v := .ref 142) (by assumption) (by kernel_rfl) ?_) | (with_reducible show W _ _ _ _ (eval (Expr.Name ("Token" : Str) _) _) _ _; refine w_glob (v := .ref 45) (by assumption) (by kernel_rfl) ?_))
  | (with_reducible show W _ _ _ _ (eval (Expr.Call (Expr.Name ("isinstance" : Str) _) _ [] _) _) _ _; refine w_callB (n := "isinstance") (by assumption) boot_isi (by kernel_rfl) ?_)
  | (with_reducible show W _ _ _ _ (eval (Expr.Call (Expr.Name ("len" : Str) _) _ [] _) _) _ _; refine w_callB (n := "len") (by assumption) boot_len (by kernel_rfl) ?_)
  | (with_reducible show W _ _ _ _ (eval (Expr.Call (Expr.Name ("min" : Str) _) _ [] _) _) _ _; refine w_callB (n := "min") (by assumption) boot_min (by kernel_rfl) ?_)
  | (with_reducible show W _ _ _ _ (eval (Expr.Call (Expr.Name ("range" : Str) _) _ [] _) _) _ _; refine w_callT (n := "range") (by assumption) boot_range (by kernel_rfl) ?_)
  | (with_reducible show W _ _ _ _ (eval (Expr.Call (Expr.Name ("str" : Str) _) _ [] _) _) _ _; refine w_callT (n := "str") (by assumption) boot_str (by kernel_rfl) ?_)
  | (with_reducible show W _ _ _ _ (eval (Expr.Call (Expr.Name ("list" : Str) _) _ [] _) _) _ _; refine w_callT (n := "list") (by assumption) boot_list (by kernel_rfl) ?_)
  | (with_reducible show W _ _ _ _ (eval (Expr.Call (Expr.Name ("reversed" : Str) _) _ [] _) _) _ _; refine w_callT (n := "reversed") (by assumption) boot_rev (by kernel_rfl) ?_)
  | (with_reducible show W _ _ _ _ (eval (Expr.Call (Expr.Name ("filter" : Str) _) _ [] _) _) _ _; refine w_callT (n := "filter") (by assumption) boot_filter (by kernel_rfl) ?_)
  | (with_reducible show W _ _ _ _ (call (.builtin "len") [.ref _]) _ _; (refine w_len (by k_places) ?_ fun _ => ?_); rotate_left)
  | (with_reducible show W _ _ _ _ (binaryOp .Add (.int _ _) (.int _ _)) _ _; refine w_addI fun _ => ?_)
  | (with_reducible show W _ _ _ _ (binaryOp .Sub (.int _ _) (.int _ _)) _ _; refine w_subI fun _ => ?_)
  | (with_reducible show W _ _ _ _ (compareOp .Eq (.int _ _) (.int _ _)) _ _; refine w_eqI ?_)
  | (with_reducible show W _ _ _ _ (compareOp .NotEq (.int _ _) (.int _ _)) _ _; refine w_neI ?_)
  | (with_reducible show W _ _ _ _ (compareOp .Lt (.int _ _) (.int _ _)) _ _; refine w_ltI ?_)
  | (with_reducible show W _ _ _ _ (compareOp .Eq (.str _ _) (.str _ _)) _ _; refine w_eqS ?_)
  | (with_reducible show W _ _ _ _ (compareOp .NotEq (.bool _) (.bool _)) _ _; refine w_neB ?_)
  | (with_reducible show W _ _ _ _ (unaryOp .USub (.int _ _)) _ _; refine w_negI fun _ => ?_)
  | (with_reducible show W _ _ _ _ (unaryOp .Not _) _ _; refine w_notv ?_)
  | (with_reducible show W _ _ _ _ (eval (Expr.Attribute _ _ _) _) _ _; refine w_attr ?_)
  | (with_reducible show W _ _ _ _ (eval (Expr.List _ _) _) _ _; refine w_list ?_)
  | (with_reducible show W _ _ _ _ (eval (Expr.Tuple _ _ _) _) _ _; refine w_tuple ?_)
  | (with_reducible show W _ _ _ _ (eval (Expr.BinOp _ _ _ _) _) _ _; refine w_binop ?_)
  | (with_reducible show W _ _ _ _ (eval (Expr.Compare _ [_] [_] _) _) _ _; refine w_cmp ?_)
  | (with_reducible show W _ _ _ _ (eval (Expr.IfExp _ _ _ _) _) _ _; refine w_ifexp ?_)
  | (with_reducible show W _ _ _ _ (eval (Expr.Subscript _ _ _) _) _ _; refine w_sub ?_)
  | (with_reducible show W _ _ _ _ (eval (Expr.UnaryOp _ _ _) _) _ _; refine w_unop ?_)
  | (with_reducible show W _ _ _ _ (eval (Expr.Constant .none _ _) _) _ _; refine w_none ?_)
  | (with_reducible show W _ _ _ _ (eval (Expr.Constant (.bool _) _ _) _) _ _; refine w_tf ?_)
  | (with_reducible show W _ _ _ _ (eval (Expr.Constant (.int _) _ _) _) _ _; refine w_int ?_; intro _)
  | (with_reducible show W _ _ _ _ (eval (Expr.Constant (.str _) _ _) _) _ _; refine w_str ?_; intro _)
  | (with_reducible show W _ _ _ _ (execs [] _) _ _; refine w_nil ?_)
  | (with_reducible show W _ _ _ _ (execs (Stmt.Assign [Expr.Name _ _] (Expr.ListComp _ [Comprehension.mk _ _ _ _] _ _) _ :: _) _) _ _; refine w_cons (w_assignComp ?_))
  | (with_reducible show W _ _ _ _ (execs (Stmt.Assign [Expr.Name _ _] _ _ :: _) _) _ _; refine w_consA ?_)
  | (with_reducible show W _ _ _ _ (execs (Stmt.Assign [Expr.Attribute _ _ _] _ _ :: _) _) _ _; refine w_consAttr ?_)
  | (with_reducible show W _ _ _ _ (execs (Stmt.Assign [Expr.Subscript _ _ _] _ _ :: _) _) _ _; refine w_consSub ?_)
  | (with_reducible show W _ _ _ _ (execs (Stmt.If _ _ [] _ :: _) _) _ _; refine w_consIf ?_)
  | (with_reducible show W _ _ _ _ (execs (Stmt.If _ _ _ _ :: _) _) _ _; refine w_consElse ?_)
  | (with_reducible show W _ _ _ _ (execs (Stmt.Return (some _) _ :: _) _) _ _; refine w_consRet ?_)
  | (with_reducible show W _ _ _ _ (execs (Stmt.Break _ :: _) _) _ _; refine w_consBrk ?_)
  | (with_reducible show W _ _ _ _ (execs (Stmt.Continue _ :: _) _) _ _; refine w_consCont ?_)
  | (with_reducible show W _ _ _ _ (execs (Stmt.Expr (Expr.Call (Expr.Attribute _ _ _) [_] [] _) _ :: _) _) _ _; refine w_consApp ?_)
  | (with_reducible show W _ _ _ _ (execs (Stmt.Expr _ _ :: _) _) _ _; refine w_consE ?_)
  | (with_reducible show W _ _ _ _ (isTrue (Expr.UnaryOp .Not _ _) _ _) _ _; refine w_not ?_)
  | (with_reducible show W _ _ _ _ (isTrue (Expr.BoolOp _ _ _) _ _) _ _; refine w_bool ?_)
  | (with_reducible show W _ _ _ _ (allTrue .And [] _) _ _; refine w_andNil ?_)
  | (with_reducible show W _ _ _ _ (allTrue .Or [] _) _ _; refine w_orNil ?_)
  | (with_reducible show W _ _ _ _ (allTrue .And (_ :: _) _) _ _; refine w_and ?_)
  | (with_reducible show W _ _ _ _ (allTrue .Or (_ :: _) _) _ _; refine w_or ?_)
  | (with_reducible show W _ _ _ _ (isTrue (Expr.Compare _ [_] [_] _) _ _) _ _; refine w_tcmp ?_)
  | (with_reducible show W _ _ _ _ (isTrue _ _ _) _ _; refine w_tval ?_)
  | (with_reducible show W _ _ _ _ (storeName _ _ _) _ _; first | refine w_storeL (by with_unfolding_all rfl) ?_ | refine w_storeC (by with_unfolding_all rfl) (by k_places) ?_)
  | (with_reducible show W _ _ _ _ (tests [_] _) _ _; refine w_tests1 ?_)
  | (with_reducible show W _ _ _ _ (tests [] _) _ _; refine w_tests0 ?_)
  | (with_reducible show W _ _ _ _ (eval (Expr.ListComp _ [Comprehension.mk _ _ _ _] _ _) _) _ _; refine w_listcomp ?_)
  | (with_reducible show W _ _ _ _ (truthy (.bool _)) _ _; refine w_truthyB ?_)
  | (with_reducible show thenK _ _ Flow.next _; refine thenK_next ?_)
  | (with_reducible show thenK _ _ Flow.brk _; refine thenK_brk ?_)
  | (with_reducible show thenK _ _ Flow.cont _; refine thenK_cont ?_)
  | (with_reducible show thenK _ _ (Flow.ret _) _; refine thenK_ret ?_)
  | (with_reducible show turnK _ _ _ Flow.next _; refine turnK_next ?_)
  | (with_reducible show turnK _ _ _ Flow.brk _; refine turnK_brk ?_)
  | (with_reducible show turnK _ _ _ Flow.cont _; refine turnK_cont ?_)
  | (with_reducible show turnK _ _ _ (Flow.ret _) _; refine turnK_ret ?_))

/-- what stands before the expand -/
structure L18 (b : Base) (N : Nat) (ns : List Int) (σ₀ : Sg) (rs : List Rec) (tk : List TkR) (r : Rec) (nms : List Str) (cn lt du lo nb vb ltk nt : Addr) (vsn ys zs ws : List Value) (τ : Sg) : Prop where
  X : Bld σ₀ τ (built ns) rs tk
  hr : rs[0]? = some r
  mT : τ.m "trees" = some (.ref lt)
  mR : τ.m "root" = some (.ref r.a)
  mD : τ.m "due" = some (.ref du)
  mH : τ.m "there" = some (.bool (r.ks.any fun c => (named (Gof rs tk) nms c).isSome))
  mO : τ.m "others" = some (.ref lo)
  mN : τ.m "names_before" = some (.ref nb)
  mV : τ.m "values" = some (.ref vb)
  mK : τ.m "tokens" = some (.ref ltk)
  hcn : τ.at_ cn = some (.cel (some (.ref nt)))
  hnt : τ.at_ nt = some (.obj (tupObj vsn))
  hvn : (∃ w t, vsn = [.str w t] ∧ nms = [w]) ∨ ∃ w1 t1 w2 t2, vsn = [.str w1 t1, .str w2 t2] ∧ nms = [w1, w2]
  aT : τ.at_ lt = some (.lst ((rs.map (·.a)).map .ref))
  aD : τ.at_ du = some (.lst ((gopen (Gof rs tk) nms r.ks).map .ref))
  aO : τ.at_ lo = some (.lst ys)
  aN : τ.at_ nb = some (.lst zs)
  aV : τ.at_ vb = some (.lst ws)
  aK : τ.at_ ltk = some (.lst ((gtoks (Gof rs tk) N r.a).map .ref))
  ne : lt ≠ r.l ∧ du ≠ r.l ∧ lo ≠ r.l ∧ nb ≠ r.l ∧ vb ≠ r.l ∧ ltk ≠ r.l
  yO : ys.length = rs.length - 1 ∧ ∀ (j : Nat) q, rs[j + 1]? = some q → ∃ l', ys[j]? = some (.ref l') ∧ l' ≠ r.l ∧ τ.at_ l' = some (.lst (q.ks.map .ref))
  zN : StrsAre zs (rs.map (·.nm))
  wV : ws.length = (gtoks (Gof rs tk) N r.a).length ∧ ∀ (j : Nat) t, (gtoks (Gof rs tk) N r.a)[j]? = some t → ∃ w, ws[j]? = some w ∧ PairW τ w (kv (Gof rs tk) t).1 (kv (Gof rs tk) t).2
  tb : Tabs τ
/-- the tokens below a tree are tokens -/
theorem gtoks_tok {g : Gf} {as : List Addr} (B : Gb g as) : ∀ n a t, t ∈ gtoks g n a → ∃ d k v, g t = some (.tok d k v) := by
  intro n
  induction n with
  | zero => intro a t h; cases h
  | succ n ih =>
    intro a t h
    unfold gtoks at h
    split at h
    · rename_i e
      obtain ⟨k, hk, ht⟩ := List.mem_flatMap.mp h
      split at ht
      · exact ih k t ht
      · rename_i hT
        simp at ht; subst ht
        obtain ⟨nd, hnd⟩ := B.all_ _ _ _ _ _ e t hk
        cases nd with
        | node => exact absurd (isTree_of hnd) hT
        | tok d k v => exact ⟨d, k, v, hnd⟩
    · cases h

theorem strsOf {f : Addr → Str} : ∀ {as : List Addr} {ys : List Value}, Paired (fun v y => ∃ a t, v = Value.ref a ∧ y = .str (f a) t) (as.map Value.ref) ys → StrsAre ys (as.map f)
  | [], _, h => by cases h; exact .nil
  | a :: as, _, h => by
    cases h with
    | cons h1 h2 =>
      obtain ⟨a', t, e1, rfl⟩ := h1
      injection e1 with e1; subst e1
      exact .cons _ _ (strsOf h2)
theorem pairsOf {τ : Sg} {g : Gf} {as : List Addr} {ys : List Value} (h : Paired (fun v y => ∃ a, v = Value.ref a ∧ PairW τ y (kv g a).1 (kv g a).2) (as.map Value.ref) ys) : ys.length = as.length ∧ ∀ (j : Nat) t, as[j]? = some t → ∃ w, ys[j]? = some w ∧ PairW τ w (kv g t).1 (kv g t).2 := by
  refine ⟨by have := h.length; simpa using this.symm, fun j t ht => ?_⟩
  obtain ⟨y, h1, a, e, h2⟩ := Paired.get h (i := j) (x := .ref t) (by rw [List.getElem?_map, ht]; rfl)
  injection e with e; subst e
  exact ⟨y, h1, h2⟩
theorem filterT {α : Type} (l : List α) : l.filter (fun _ => true) = l := List.filter_eq_self.mpr fun _ _ => rfl
theorem law_p18 {b : Base} (G : Glb b) {N : Nat} (hN : 12 ≤ N) {A : Around} {F : Fs} {L : Addr} {ns : List Int} {σ₀ τ : Sg} {rs : List Rec} {tk : List TkR} {r : Rec} {nms : List Str} {cc cn lt du lo nb vb ltk nt : Addr} {vsn ys zs ws : List Value} {body : List Stmt} (hb : fLaw.1.body = .stmts body)
    (R : Rm A (N + 10)) (I : L18 b N ns σ₀ rs tk r nms cn lt du lo nb vb ltk nt vsn ys zs ws τ) : W b A F L (execs (body.drop 18) (fnEnv fLaw.1 L [("names", cn), ("child", cc)] 205)) τ QL := by
  have hb' := FuncBody.stmts.inj (show FuncBody.stmts _ = FuncBody.stmts body from hb)
  subst hb'
  simp only [List.drop_succ_cons, List.drop_zero]
  obtain ⟨X, hr, mT, mR, mD, mH, mO, mN, mV, mK, hcn, hnt, hvn, aT, aD, aO, aN, aV, aK, ⟨n1, n2, n3, n4, n5, n6⟩, ⟨yl, yO⟩, zN, ⟨wl, wV⟩, hTb⟩ := I
  have hm := List.mem_of_getElem? hr
  have B := X.gb (BlOk.built ns)
  have e := X.gof hm
  refine w_consElseP (fun τ' => Ext (τ.put r.l (.lst ((gopen (Gof rs tk) nms r.ks).map .ref))) τ' ∧ τ'.m "trees" = some (.ref lt) ∧ τ'.m "root" = some (.ref r.a) ∧ τ'.m "due" = some (.ref du) ∧ τ'.m "there" = some (.bool (r.ks.any fun c => (named (Gof rs tk) nms c).isSome)) ∧
    τ'.m "others" = some (.ref lo) ∧ τ'.m "names_before" = some (.ref nb) ∧ τ'.m "values" = some (.ref vb) ∧ τ'.m "tokens" = some (.ref ltk) ∧ τ'.m "changed" = some (.bool (r.ks.any fun c => (named (Gof rs tk) nms c).isSome))) ?_ ?_
  · repeat k_subL
    have hvl : vsn.length < 2 ^ 62 := by rcases hvn with ⟨w, t, rfl, _⟩ | ⟨w1, t1, w2, t2, rfl, _⟩ <;> simp
    refine w_lenT hnt hvl fun _ => ?_
    repeat k_subL
    refine ⟨fun ht => ?_, fun hf => ?_⟩
    · rcases hvn with ⟨w, t, rfl, rfl⟩ | ⟨w1, t1, w2, t2, rfl, _⟩
      · repeat k_subL
        refine w_callM ?_
        repeat k_subL
        refine w_meth (f := 118) G (X.gr _ _ e) (by kernel_rfl) (by kernel_rfl) ⟨by decide, by decide, by decide⟩ ?_
        refine w_cwK G (by kernel_rfl) ?_
        repeat k_subL
        refine w_itemT (k := 0) (v := .str w t) hnt rfl (by simp) ?_
        repeat k_subL
        refine WC.call (WC.mono (expand_step (N := N + 5) G (R.le (by omega)) X hr (StrsAre.cons w t .nil) fun Q h => bind1 h) fun v τ1 ⟨hv, hE⟩ => ?_)
        subst hv
        repeat k_subL
        exact ⟨hE.1.setL, by k_clsL, by k_clsL, by k_clsL, by k_clsL, by k_clsL, by k_clsL, by k_clsL, by k_clsL, by k_clsL⟩
      · simp at ht
    · rcases hvn with ⟨w, t, rfl, _⟩ | ⟨w1, t1, w2, t2, rfl, rfl⟩
      · simp at hf
      · repeat k_subL
        refine w_callM ?_
        repeat k_subL
        refine w_meth (f := 118) G (X.gr _ _ e) (by kernel_rfl) (by kernel_rfl) ⟨by decide, by decide, by decide⟩ ?_
        refine w_cwK G (by kernel_rfl) ?_
        repeat k_subL
        refine w_itemT (k := 0) (v := .str w1 t1) hnt rfl (by simp) ?_
        repeat k_subL
        refine w_itemT (k := 1) (v := .str w2 t2) hnt rfl (by simp) ?_
        repeat k_subL
        refine WC.call (WC.mono (expand_step (N := N + 5) G (R.le (by omega)) X hr (StrsAre.cons w1 t1 (.cons w2 t2 .nil)) fun Q h => bind2 h) fun v τ1 ⟨hv, hE⟩ => ?_)
        subst hv
        repeat k_subL
        exact ⟨hE.1.setL, by k_clsL, by k_clsL, by k_clsL, by k_clsL, by k_clsL, by k_clsL, by k_clsL, by k_clsL, by k_clsL⟩
  rintro τ1 ⟨hE, mT, mR, mD, mH, mO, mN, mV, mK, mC⟩
  have keep : ∀ y c, τ.at_ y = some c → y ≠ r.l → τ1.at_ y = some c := fun y c h hy => hE.at_ _ _ (putA_ne hy h)
  have hG1 : Gr τ1 (repK (Gof rs tk) r.a (gopen (Gof rs tk) nms r.ks)) := gr_repK X.gr B.sep e hE
  have e1 := repK_p (ks' := gopen (Gof rs tk) nms r.ks) e
  have hgo : ∀ x ∈ gopen (Gof rs tk) nms r.ks, Th τ1 x := fun x hx => by
    obtain ⟨nd, hnd⟩ := gopen_ex B e x hx
    by_cases q : x = r.a
    · subst q; exact Th.of (hG1 _ _ e1)
    · exact Th.of (hG1 x nd (by rw [repK_o q]; exact hnd))
  have hgl := gopen_len B (nms := nms) (B.klen e)
  have hTb1 : Tabs τ1 := (hTb.put (X.gr _ _ e).2 (by intro ps q; cases q)).ext hE
  have aD1 := keep _ _ aD n2
  have aL1 : τ1.at_ r.l = some (.lst ((gopen (Gof rs tk) nms r.ks).map .ref)) := (hG1 _ _ e1).2
  repeat k_subL
  refine ⟨fun hx => ?_, fun _ => ?_⟩
  · exact absurd hx (by simp)
  repeat k_subL
  refine w_call0 (f := 174) G (by kernel_rfl) ?_
  repeat k_subL
  refine w_children G (hG1 _ _ e1) ?_
  repeat k_subL
  refine WC.call (WC.mono (c_alike G (R.le (m := N + 5) (by omega)) aL1 aD1 hgo hgo ⟨by omega, by omega⟩) fun v τ2 ⟨hv, hE2⟩ => ?_)
  rw [show decide ((gopen (Gof rs tk) nms r.ks) = (gopen (Gof rs tk) nms r.ks)) = true from decide_eq_true rfl] at hv
  subst hv
  repeat k_subL
  refine ⟨fun hx => (nomatch hx), fun _ => ?_⟩
  repeat k_subL
  refine ⟨fun hx => (nomatch hx), fun _ => ?_⟩
  have keep2 : ∀ y c, τ.at_ y = some c → y ≠ r.l → τ2.at_ y = some c := fun y c h hy => hE2.1.at_ _ _ (keep y c h hy)
  have hG2 := hG1.ext hE2.1
  have hTb2 := hTb1.ext hE2.1
  have mT2 : τ2.m "trees" = some (.ref lt) := by k_clsL
  have mO2 : τ2.m "others" = some (.ref lo) := by k_clsL
  have mN2 : τ2.m "names_before" = some (.ref nb) := by k_clsL
  have mV2 : τ2.m "values" = some (.ref vb) := by k_clsL
  have mK2 : τ2.m "tokens" = some (.ref ltk) := by k_clsL
  clear mT mR mD mH mO mN mV mK mC hE2 keep aD1 aL1 hgo hG1
  have aT2 := keep2 _ _ aT n1
  have aO2 := keep2 _ _ aO n3
  have aN2 := keep2 _ _ aN n4
  have aV2 := keep2 _ _ aV n5
  have aK2 := keep2 _ _ aK n6
  have hrl : rs.length ≤ 12 := by have := B.n12; simpa using this
  have nmA : ∀ q ∈ rs, ∃ d l ks, repK (Gof rs tk) r.a (gopen (Gof rs tk) nms r.ks) q.a = some (.node d l q.nm ks) := fun q hq => by
    by_cases h : q.a = r.a
    · have h3 := X.gof hq
      rw [h, e] at h3
      injection h3 with h3
      injection h3 with _ _ h4 _
      rw [h, ← h4]; exact ⟨_, _, _, e1⟩
    · exact ⟨_, _, _, by rw [repK_o h]; exact X.gof hq⟩
  have nmE : (rs.map (·.a)).map (nmOf (repK (Gof rs tk) r.a (gopen (Gof rs tk) nms r.ks))) = rs.map (·.nm) := by
    rw [List.map_map]
    refine List.map_congr_left fun q hq => ?_
    obtain ⟨d, l, ks, h⟩ := nmA q hq
    show nmOf _ q.a = q.nm
    unfold nmOf; rw [h]
  have tkT : ∀ t ∈ gtoks (Gof rs tk) N r.a, ∃ d k v, Gof rs tk t = some (.tok d k v) ∧ repK (Gof rs tk) r.a (gopen (Gof rs tk) nms r.ks) t = some (.tok d k v) := fun t ht => by
    obtain ⟨d, k, v, h⟩ := gtoks_tok B N r.a t ht
    exact ⟨d, k, v, h, by rw [repK_o (fun q => by rw [q, e] at h; cases h)]; exact h⟩
  have htl : (gtoks (Gof rs tk) N r.a).length ≤ 2 ^ 11 := Nat.le_trans (gtoks_le _ N r.a) (B.gall (isTree_of e) N)
  refine w_consIfP (fun τ' => Ext τ2 τ' ∧ τ'.m "trees" = some (.ref lt) ∧ τ'.m "others" = some (.ref lo)) ?_ ?_
  · repeat k_subL
    refine w_compR (fun _ => true) (fun v y _ => ∃ a t, v = Value.ref a ∧ y = .str (nmOf (repK (Gof rs tk) r.a (gopen (Gof rs tk) nms r.ks)) a) t) (cl := []) R.hh (by with_unfolding_all rfl) (by rfl) (by decide) (by decide) (by decide) ?_
    repeat k_subL
    refine ⟨lt, _, rfl, aT2, by rw [sizeLine_eq]; simp only [List.length_map]; omega, fun _ _ _ _ _ h => h, fun v hv τ' C F' hEx hmx => ?_, fun ys' τ' acc hEx hP hacc hmm => ?_⟩
    · obtain ⟨a, ha, rfl⟩ := List.mem_map.mp hv
      obtain ⟨q, hq, rfl⟩ := List.mem_map.mp ha
      obtain ⟨d, l, ks, h⟩ := nmA q hq
      refine w_tests0 ⟨rfl, Ext.rfl, fun _ => ?_⟩
      repeat k_subL
      refine w_data G ((hG2 _ _ h).ext hEx) fun t => ?_
      exact ⟨Ext.rfl, q.a, t, rfl, by unfold nmOf; rw [h]⟩
    rw [filterT] at hP
    have hst := strsOf hP
    rw [nmE] at hst
    have mN' : (τ'.put acc (.lst ys')).m "names_before" = some (.ref nb) := by show τ'.m _ = _; rw [hmm]; exact mN2
    have mT' : (τ'.put acc (.lst ys')).m "trees" = some (.ref lt) := by show τ'.m _ = _; rw [hmm]; exact mT2
    have mO' : (τ'.put acc (.lst ys')).m "others" = some (.ref lo) := by show τ'.m _ = _; rw [hmm]; exact mO2
    have mV' : (τ'.put acc (.lst ys')).m "values" = some (.ref vb) := by show τ'.m _ = _; rw [hmm]; exact mV2
    have mK' : (τ'.put acc (.lst ys')).m "tokens" = some (.ref ltk) := by show τ'.m _ = _; rw [hmm]; exact mK2
    have hE3 : Ext τ2 (τ'.put acc (.lst ys')) := hEx.put hacc
    repeat k_subL
    refine w_neW (by have := R.r.units; omega) putA_same (hE3.at_ _ _ aN2) hst zN ?_
    repeat k_subL
    refine ⟨fun hx => (nomatch hx), fun _ => ?_⟩
    generalize τ'.put acc (.lst ys') = τ3 at mN' mT' mO' mV' mK' hE3 ⊢
    repeat k_subL
    refine w_compR (fun _ => true) (fun v y υ => ∃ a, v = Value.ref a ∧ PairW υ y (kv (Gof rs tk) a).1 (kv (Gof rs tk) a).2) (cl := []) R.hh (by with_unfolding_all rfl) (by rfl) (by decide) (by decide) (by decide) ?_
    repeat k_subL
    refine ⟨ltk, _, rfl, hE3.at_ _ _ aK2, by rw [sizeLine_eq]; simp only [List.length_map]; omega, fun v y υ υ' hEx ⟨a, h1, h2⟩ => ⟨a, h1, h2.ext hEx⟩, fun v hv τ' C F' hEx hmx => ?_, fun ys' τ' acc hEx hP hacc hmm => ?_⟩
    · obtain ⟨a, ha, rfl⟩ := List.mem_map.mp hv
      obtain ⟨d, k, w, h1, h2⟩ := tkT a ha
      have hnd := (hG2 _ _ h2).ext (hE3.trans hEx)
      refine w_tests0 ⟨rfl, Ext.rfl, fun _ => ?_⟩
      repeat k_subL
      refine w_type G hnd fun t => ?_
      repeat k_subL
      refine w_value G hnd fun u => ?_
      repeat k_subL
      refine w_newTuple (by rw [sizeLine_eq]; simp) fun p hp => ?_
      refine ⟨Ext.new hp, a, rfl, p, t, u, rfl, ?_⟩
      unfold kv; rw [h1]; exact putA_same
    rw [filterT] at hP
    obtain ⟨pl, pv⟩ := pairsOf hP
    have mV'' : (τ'.put acc (.lst ys')).m "values" = some (.ref vb) := by show τ'.m _ = _; rw [hmm]; exact mV'
    have mT'' : (τ'.put acc (.lst ys')).m "trees" = some (.ref lt) := by show τ'.m _ = _; rw [hmm]; exact mT'
    have mO'' : (τ'.put acc (.lst ys')).m "others" = some (.ref lo) := by show τ'.m _ = _; rw [hmm]; exact mO'
    have hE4 : Ext τ2 (τ'.put acc (.lst ys')) := (hE3.trans hEx).put hacc
    have pE : Ext τ' (τ'.put acc (.lst ys')) := Ext.new hacc
    repeat k_subL
    refine w_neP (by have := R.r.units; omega) putA_same (hE4.at_ _ _ aV2) (by rw [pl, wl]) (fun j x y hx hy => ?_) ?_
    · have hj : j < (gtoks (Gof rs tk) N r.a).length := by rw [← pl]; exact (List.getElem?_eq_some_iff.mp hx).1
      have ht := List.getElem?_eq_getElem hj
      obtain ⟨w1, h1, h2⟩ := pv j _ ht
      obtain ⟨w2, h3, h4⟩ := wV j _ ht
      rw [hx] at h1; cases h1
      rw [hy] at h3; cases h3
      refine ⟨_, _, h2.ext pE, ?_⟩
      obtain ⟨a, t, u, h5, h6⟩ := h4
      exact ⟨a, t, u, h5, hE4.at_ _ _ (keep2 _ _ h6 (fun q => by rw [q] at h6; rw [(X.gr _ _ e).2] at h6; cases h6))⟩
    · repeat k_subL
      refine ⟨fun hx => (nomatch hx), fun _ => ?_⟩
      repeat k_subL
      refine ⟨fun hx => (nomatch hx), fun _ => ?_⟩
      exact ⟨hE4, mT'', mO''⟩
  rintro τ3 ⟨hE3, mT3, mO3⟩
  have aO3 := hE3.at_ _ _ aO2
  refine w_forRange R.hh ys.length 0 1 (fun i τ' => Ext τ2 τ' ∧ τ'.m "trees" = some (.ref lt) ∧ τ'.m "others" = some (.ref lo)) ?_
  repeat k_subL
  rotate_left
  · omega
  refine w_range1 fun rg t1 t2 t3 hrg => ?_
  have hr1 := range_up 0 ys.length (by omega) (by omega)
  refine ⟨rg, _, _, _, _, rfl, putA_same, hr1.1, by exact hr1.2, ⟨hE3.put hrg, by k_clsL, by k_clsL⟩, fun i t τ' Fa hi' ⟨hE', mT', mO'⟩ => ?_, fun τ' ⟨hE', _, _⟩ => ?_⟩
  · rw [show (0 : Int) + i * 1 = ((i : Nat) : Int) by omega]
    obtain ⟨q, hq⟩ : ∃ q, rs[i + 1]? = some q := ⟨rs[i + 1]'(by omega), List.getElem?_eq_getElem (by omega)⟩
    obtain ⟨l', hy, hl1, hl2⟩ := yO i q hq
    have hqm := List.mem_of_getElem? hq
    have hqa : q.a ≠ r.a := fun h => by
      have h1 : (rs.map (·.a))[i + 1]? = some r.a := by rw [List.getElem?_map, hq, ← h]; rfl
      have h2 : (rs.map (·.a))[0]? = some r.a := by rw [List.getElem?_map, hr]; rfl
      have := nodup_get X.ra h1 h2
      omega
    have hqg : repK (Gof rs tk) r.a (gopen (Gof rs tk) nms r.ks) q.a = some (.node q.d q.l q.nm q.ks) := by rw [repK_o hqa]; exact X.gof hqm
    repeat k_subL
    refine w_call0 (f := 174) G (by kernel_rfl) ?_
    repeat k_subL
    rw [show (1 : Int) + ((i : Nat) : Int) = ((i + 1 : Nat) : Int) by push_cast; omega]
    refine w_item (k := i + 1) (v := .ref q.a) ((hE'.at_ _ _ aT2)) (by rw [List.getElem?_map, List.getElem?_map, hq]; rfl) (by simp only [List.length_map]; omega) ?_
    refine w_children G ((hG2 _ _ hqg).ext (show Ext τ2 _ by k_offL)) ?_
    repeat k_subL
    refine w_item (k := i) (v := .ref l') ((hE'.at_ _ _ aO2)) hy (by omega) ?_
    repeat k_subL
    have hEk : Ext τ2 (τ'.setL "k" (.int ((i : Nat) : Int) t)) := by k_offL
    have hth : ∀ a ∈ q.ks, Th (τ'.setL "k" (.int ((i : Nat) : Int) t)) a := fun a ha => by
      obtain ⟨nd, hnd⟩ := B.all_ _ _ _ _ _ (X.gof hqm) a ha
      by_cases h : a = r.a
      · subst h; exact Th.of ((hG2 _ _ e1).ext hEk)
      · exact Th.of ((hG2 a nd (by rw [repK_o h]; exact hnd)).ext hEk)
    have hkl := B.klen (X.gof hqm)
    refine WC.call (WC.mono (c_alike G (R.le (m := N + 5) (by omega)) (((hG2 _ _ hqg).ext hEk).2) (hEk.at_ _ _ (keep2 _ _ hl2 hl1)) hth hth ⟨by omega, by omega⟩) fun v τ4 ⟨hv, hE4⟩ => ?_)
    rw [show decide (q.ks = q.ks) = true from decide_eq_true rfl] at hv
    subst hv
    repeat k_subL
    refine ⟨fun hx => (nomatch hx), fun _ => ?_⟩
    repeat k_subL
    exact ⟨hEk.trans hE4.1, by k_clsL, by k_clsL⟩
  · repeat k_subL
    exact ⟨rfl, hTb2.ext hE'⟩
end PartC32

section PartC33
open PySem PySem.W PyProof.Rows PySem.Calls
set_option maxRecDepth 100000
set_option maxHeartbeats 400000
set_option linter.unusedVariables false

/-- a cell, or a table of lambdas: what the law's own frame changes -/
def SoftC (c : Cl) : Prop := (∃ u, c = .cel u) ∨ ∃ ps, c = .obj (tabObj ps)
/-- what stood stands, but for cells and tables -/
def ExtC (σ τ : Sg) : Prop := ∀ a c, σ.at_ a = some c → ¬ SoftC c → τ.at_ a = some c
theorem Ext.soft {σ τ : Sg} (e : Ext σ τ) : ExtC σ τ := fun a c h _ => e.at_ a c h
theorem ExtC.trans {σ τ υ : Sg} (e : ExtC σ τ) (f : ExtC τ υ) : ExtC σ υ := fun a c h n => f a c (e a c h n) n
theorem ExtC.cell {τ : Sg} {a : Addr} {u : Option Value} {c : Cl} (h : τ.at_ a = some (.cel u)) : ExtC τ (τ.put a c) := fun y c' e n => putA_ne (fun q => n (by rw [q, h] at e; cases e; exact .inl ⟨u, rfl⟩)) e
theorem ExtC.del {σ τ : Sg} {P : Addr} {ps : Array Value} (hP : σ.at_ P = some (.obj (tabObj ps))) (e : Ext (σ.del P) τ) : ExtC σ τ := fun y c h n => e.at_ _ _ (del_keep hP h fun q => n (.inr ⟨ps, q⟩))
theorem ExtC.lst {σ τ : Sg} {a : Addr} {xs : List Value} (e : ExtC σ τ) (h : σ.at_ a = some (.lst xs)) : τ.at_ a = some (.lst xs) := e _ _ h (by rintro (⟨_, q⟩ | ⟨_, q⟩) <;> cases q)
theorem ExtC.dct {σ τ : Sg} {a : Addr} {es : List (Str × Value)} (e : ExtC σ τ) (h : σ.at_ a = some (.dct es)) : τ.at_ a = some (.dct es) := e _ _ h (by rintro (⟨_, q⟩ | ⟨_, q⟩) <;> cases q)
theorem ExtC.inst {σ τ : Sg} {a C d : Addr} (e : ExtC σ τ) (h : σ.at_ a = some (.obj (instObj C d))) : τ.at_ a = some (.obj (instObj C d)) := e _ _ h (by rintro (⟨_, q⟩ | ⟨_, q⟩) <;> cases q)
theorem ExtC.nd {σ τ : Sg} {a : Addr} {nd : Nd} (e : ExtC σ τ) (h : NdAt σ a nd) : NdAt τ a nd := by
  cases nd with
  | node d l nm ks => obtain ⟨⟨t, h1, h2⟩, h3⟩ := h; exact ⟨⟨t, e.inst h1, e.dct h2⟩, e.lst h3⟩
  | tok d k v => obtain ⟨t, u, h1, h2⟩ := h; exact ⟨t, u, e.inst h1, e.dct h2⟩
theorem Bld.extC {σ₀ σ τ : Sg} {B : Bl} {rs : List Rec} {tk : List TkR} (x : Bld σ₀ σ B rs tk) (e : ExtC σ τ) : Bld σ₀ τ B rs tk :=
  ⟨fun r h => e.nd (x.at_ r h), fun t h => e.nd (x.tok t h), x.ra, x.rl, x.rd, x.new, x.newt, x.sh⟩

local macro_rules | `(tactic| k_clsL) => `(tactic| first
  | with_reducible assumption
  | (with_reducible show Sg.m (Sg.setL _ _ _) _ = some _; first | with_reducible exact getL_same | (apply getL_skip; with_unfolding_all decide; k_clsL))
  | (with_reducible show Sg.m (Sg.put _ _ _) _ = some _; apply putM; k_clsL)
  | (with_reducible show Sg.m (Sg.del _ _) _ = some _; apply delM; k_clsL)
  | (with_reducible show Sg.m (Sg.setM _ _) _ = some _; apply setMM; k_clsL)
  | (apply viaM; with_reducible assumption; k_clsL)
  | (apply viaE; with_reducible assumption; k_clsL))
local macro_rules | `(tactic| k_offL) => `(tactic| first
  | with_reducible assumption
  | with_reducible exact Ext.rfl
  | (with_reducible show Ext _ (Sg.setL _ _ _); refine Ext.setL ?_; k_offL)
  | (with_reducible show Ext _ (Sg.put _ _ _); refine Ext.put ?_ (by first | with_reducible assumption | with_reducible exact setA (by with_reducible assumption)); k_offL)
  | (with_reducible show Ext _ (Sg.setM _ _); refine Ext.setM ?_; k_offL)
  | (with_reducible refine Ext.tr (by with_reducible assumption) ?_; k_offL)
  | (with_reducible refine Ext.tr2 (by with_reducible assumption) ?_; k_offL))
local macro_rules | `(tactic| k_places) => `(tactic| first
  | with_reducible assumption
  | with_reducible exact putA_same
  | (with_reducible show Sg.at_ (Sg.setL _ _ _) _ = some _; apply setA; k_places)
  | (with_reducible show Sg.at_ (Sg.setM _ _) _ = some _; apply setMA; k_places)
  | (with_reducible show Sg.at_ (Sg.put _ _ _) _ = some _; apply putA_new; with_reducible assumption; k_places)
  | (apply ESt.at_; with_reducible assumption; k_places)
  | (apply Ext.at'; with_reducible assumption; k_places))
local macro_rules | `(tactic| k_subL) => `(tactic| first
  | (with_reducible show W _ _ _ _ (spliced (backTo _ (starEach [] _))) _ _; refine w_items0 ?_)
  | (with_reducible show W _ _ _ _ (spliced (backTo _ (starEach (_ :: _) _))) _ _; refine w_items ?_)
  | (with_reducible show W _ _ _ _ (eval (Expr.Name _ _) _) _ _; first | refine w_local (by with_unfolding_all rfl) (by k_clsL) ?_ | refine w_cell (by with_unfolding_all rfl) (by k_places) ?_ | (with_reducible show W _ _ _ _ (eval (Expr.Name ("Tree" : Str) _) _) _ _; refine w_glob (v := .ref 142) (by assumption) (by kernel_rfl) ?_) | (with_reducible show W _ _ _ _ (eval (Expr.Name ("Token" : Str) _) _) _ _; refine w_glob (v := .ref 45) (by assumption) (by kernel_rfl) ?_))
  | (with_reducible show W _ _ _ _ (eval (Expr.Call (Expr.Name ("isinstance" : Str) _) _ [] _) _) _ _; refine w_callB (n := "isinstance") (by assumption) boot_isi (by kernel_rfl) ?_)
  | (with_reducible show W _ _ _ _ (eval (Expr.Call (Expr.Name ("len" : Str) _) _ [] _) _) _ _; refine w_callB (n := "len") (by assumption) boot_len (by kernel_rfl) ?_)
  | (with_reducible show W _ _ _ _ (eval (Expr.Call (Expr.Name ("min" : Str) _) _ [] _) _) _ _; refine w_callB (n := "min") (by assumption) boot_min (by kernel_rfl) ?_)
  | (with_reducible show W _ _ _ _ (eval (Expr.Call (Expr.Name ("range" : Str) _) _ [] _) _) _ _; refine w_callT (n := "range") (by assumption) boot_range (by kernel_rfl) ?_)
  | (with_reducible show W _ _ _ _ (eval (Expr.Call (Expr.Name ("str" : Str) _) _ [] _) _) _ _; refine w_callT (n := "str") (by assumption) boot_str (by kernel_rfl) ?_)
  | (with_reducible show W _ _ _ _ (eval (Expr.Call (Expr.Name ("list" : Str) _) _ [] _) _) _ _; refine w_callT (n := "list") (by assumption) boot_list (by kernel_rfl) ?_)
  | (with_reducible show W _ _ _ _ (eval (Expr.Call (Expr.Name ("reversed" : Str) _) _ [] _) _) _ _; refine w_callT (n := "reversed") (by assumption) boot_rev (by kernel_rfl) ?_)
  | (with_reducible show W _ _ _ _ (eval (Expr.Call (Expr.Name ("filter" : Str) _) _ [] _) _) _ _; refine w_callT (n := "filter") (by assumption) boot_filter (by kernel_rfl) ?_)
  | (with_reducible show W _ _ _ _ (call (.builtin "len") [.ref _]) _ _; (refine w_len (by k_places) ?_ fun _ => ?_); rotate_left)
  | (with_reducible show W _ _ _ _ (binaryOp .Add (.int _ _) (.int _ _)) _ _; refine w_addI fun _ => ?_)
  | (with_reducible show W _ _ _ _ (binaryOp .Sub (.int _ _) (.int _ _)) _ _; refine w_subI fun _ => ?_)
  | (with_reducible show W _ _ _ _ (compareOp .Eq (.int _ _) (.int _ _)) _ _; refine w_eqI ?_)
  | (with_reducible show W _ _ _ _ (compareOp .NotEq (.int _ _) (.int _ _)) _ _; refine w_neI ?_)
  | (with_reducible show W _ _ _ _ (compareOp .Lt (.int _ _) (.int _ _)) _ _; refine w_ltI ?_)
  | (with_reducible show W _ _ _ _ (compareOp .Eq (.str _ _) (.str _ _)) _ _; refine w_eqS ?_)
  | (with_reducible show W _ _ _ _ (compareOp .NotEq (.bool _) (.bool _)) _ _; refine w_neB ?_)
  | (with_reducible show W _ _ _ _ (unaryOp .USub (.int _ _)) _ _; refine w_negI fun _ => ?_)
  | (with_reducible show W _ _ _ _ (unaryOp .Not _) _ _; refine w_notv ?_)
  | (with_reducible show W _ _ _ _ (eval (Expr.Attribute _ _ _) _) _ _; refine w_attr ?_)
  | (with_reducible show W _ _ _ _ (eval (Expr.List _ _) _) _ _; refine w_list ?_)
  | (with_reducible show W _ _ _ _ (eval (Expr.Tuple _ _ _) _) _ _; refine w_tuple ?_)
  | (with_reducible show W _ _ _ _ (eval (Expr.BinOp _ _ _ _) _) _ _; refine w_binop ?_)
  | (with_reducible show W _ _ _ _ (eval (Expr.Compare _ [_] [_] _) _) _ _; refine w_cmp ?_)
  | (with_reducible show W _ _ _ _ (eval (Expr.IfExp _ _ _ _) _) _ _; refine w_ifexp ?_)
  | (with_reducible show W _ _ _ _ (eval (Expr.Subscript _ _ _) _) _ _; refine w_sub ?_)
  | (with_reducible show W _ _ _ _ (eval (Expr.UnaryOp _ _ _) _) _ _; refine w_unop ?_)
  | (with_reducible show W _ _ _ _ (eval (Expr.Constant .none _ _) _) _ _; refine w_none ?_)
  | (with_reducible show W _ _ _ _ (eval (Expr.Constant (.bool _) _ _) _) _ _; refine w_tf ?_)
  | (with_reducible show W _ _ _ _ (eval (Expr.Constant (.int _) _ _) _) _ _; refine w_int ?_; intro _)
  | (with_reducible show W _ _ _ _ (eval (Expr.Constant (.str _) _ _) _) _ _; refine w_str ?_; intro _)
  | (with_reducible show W _ _ _ _ (execs [] _) _ _; refine w_nil ?_)
  | (with_reducible show W _ _ _ _ (execs (Stmt.Assign [Expr.Name _ _] (Expr.ListComp _ [Comprehension.mk _ _ _ _] _ _) _ :: _) _) _ _; refine w_cons (w_assignComp ?_))
  | (with_reducible show W _ _ _ _ (execs (Stmt.Assign [Expr.Name _ _] _ _ :: _) _) _ _; refine w_consA ?_)
  | (with_reducible show W _ _ _ _ (execs (Stmt.Assign [Expr.Attribute _ _ _] _ _ :: _) _) _ _; refine w_consAttr ?_)
  | (with_reducible show W _ _ _ _ (execs (Stmt.Assign [Expr.Subscript _ _ _] _ _ :: _) _) _ _; refine w_consSub ?_)
  | (with_reducible show W _ _ _ _ (execs (Stmt.If _ _ [] _ :: _) _) _ _; refine w_consIf ?_)
  | (with_reducible show W _ _ _ _ (execs (Stmt.If _ _ _ _ :: _) _) _ _; refine w_consElse ?_)
  | (with_reducible show W _ _ _ _ (execs (Stmt.Return (some _) _ :: _) _) _ _; refine w_consRet ?_)
  | (with_reducible show W _ _ _ _ (execs (Stmt.Break _ :: _) _) _ _; refine w_consBrk ?_)
  | (with_reducible show W _ _ _ _ (execs (Stmt.Continue _ :: _) _) _ _; refine w_consCont ?_)
  | (with_reducible show W _ _ _ _ (execs (Stmt.Expr (Expr.Call (Expr.Attribute _ _ _) [_] [] _) _ :: _) _) _ _; refine w_consApp ?_)
  | (with_reducible show W _ _ _ _ (execs (Stmt.Expr _ _ :: _) _) _ _; refine w_consE ?_)
  | (with_reducible show W _ _ _ _ (isTrue (Expr.UnaryOp .Not _ _) _ _) _ _; refine w_not ?_)
  | (with_reducible show W _ _ _ _ (isTrue (Expr.BoolOp _ _ _) _ _) _ _; refine w_bool ?_)
  | (with_reducible show W _ _ _ _ (allTrue .And [] _) _ _; refine w_andNil ?_)
  | (with_reducible show W _ _ _ _ (allTrue .Or [] _) _ _; refine w_orNil ?_)
  | (with_reducible show W _ _ _ _ (allTrue .And (_ :: _) _) _ _; refine w_and ?_)
  | (with_reducible show W _ _ _ _ (allTrue .Or (_ :: _) _) _ _; refine w_or ?_)
  | (with_reducible show W _ _ _ _ (isTrue (Expr.Compare _ [_] [_] _) _ _) _ _; refine w_tcmp ?_)
  | (with_reducible show W _ _ _ _ (isTrue _ _ _) _ _; refine w_tval ?_)
  | (with_reducible show W _ _ _ _ (storeName _ _ _) _ _; first | refine w_storeL (by with_unfolding_all rfl) ?_ | refine w_storeC (by with_unfolding_all rfl) (by k_places) ?_)
  | (with_reducible show W _ _ _ _ (tests [_] _) _ _; refine w_tests1 ?_)
  | (with_reducible show W _ _ _ _ (tests [] _) _ _; refine w_tests0 ?_)
  | (with_reducible show W _ _ _ _ (eval (Expr.ListComp _ [Comprehension.mk _ _ _ _] _ _) _) _ _; refine w_listcomp ?_)
  | (with_reducible show W _ _ _ _ (truthy (.bool _)) _ _; refine w_truthyB ?_)
  | (with_reducible show thenK _ _ Flow.next _; refine thenK_next ?_)
  | (with_reducible show thenK _ _ Flow.brk _; refine thenK_brk ?_)
  | (with_reducible show thenK _ _ Flow.cont _; refine thenK_cont ?_)
  | (with_reducible show thenK _ _ (Flow.ret _) _; refine thenK_ret ?_)
  | (with_reducible show turnK _ _ _ Flow.next _; refine turnK_next ?_)
  | (with_reducible show turnK _ _ _ Flow.brk _; refine turnK_brk ?_)
  | (with_reducible show turnK _ _ _ Flow.cont _; refine turnK_cont ?_)
  | (with_reducible show turnK _ _ _ (Flow.ret _) _; refine turnK_ret ?_))

/-- what stands before the names are chosen -/
structure L12 (b : Base) (N : Nat) (l : Addr) (ns : List Int) (σ₀ : Sg) (rs : List Rec) (tk : List TkR) (r : Rec) (cn lt ltk : Addr) (τ : Sg) : Prop where
  H : RootI b l ns σ₀ τ rs tk r
  mS : τ.m "script" = some (.ref l)
  mT : τ.m "trees" = some (.ref lt)
  mR : τ.m "root" = some (.ref r.a)
  mK : τ.m "tokens" = some (.ref ltk)
  hcn : ∃ u, τ.at_ cn = some (.cel u)
  aT : τ.at_ lt = some (.lst ((rs.map (·.a)).map .ref))
  aK : τ.at_ ltk = some (.lst ((gtoks (Gof rs tk) N r.a).map .ref))
  ne : lt ≠ r.l ∧ ltk ≠ r.l
  tb : Tabs τ

theorem named_is {g : Gf} {nms : List Str} {c d l : Addr} {nm : Str} {ks : List Addr} (h : g c = some (.node d l nm ks)) : (named g nms c).isSome = nms.any (· == nm) := by
  unfold named; rw [h]; dsimp only; cases nms.any (· == nm) <;> rfl
/-- the lists of the others -/
def OthR (rs : List Rec) (r : Rec) : Value → Value → Sg → Prop := fun v y τ => ∃ q ∈ rs, v = .ref q.a ∧ ∃ l', y = .ref l' ∧ l' ≠ r.l ∧ τ.at_ l' = some (.lst (q.ks.map .ref))
theorem othOf {rs : List Rec} {r : Rec} {τ : Sg} {ys : List Value} (hn : (rs.map (·.a)).Nodup) (h : Paired (fun v y => OthR rs r v y τ) (((rs.map (·.a)).drop 1).map Value.ref) ys) :
    ys.length = rs.length - 1 ∧ ∀ (j : Nat) q, rs[j + 1]? = some q → ∃ l', ys[j]? = some (.ref l') ∧ l' ≠ r.l ∧ τ.at_ l' = some (.lst (q.ks.map .ref)) := by
  refine ⟨by have := h.length; simp at this; omega, fun j q hq => ?_⟩
  have h0 : (((rs.map (·.a)).drop 1).map Value.ref)[j]? = some (.ref q.a) := by
    rw [List.getElem?_map, List.getElem?_drop, List.getElem?_map, Nat.add_comm 1 j, hq]; rfl
  obtain ⟨y, h1, q', hq', e, l', rfl, h2, h3⟩ := Paired.get h h0
  injection e with e
  have : q' = q := by
    obtain ⟨i, hi⟩ := List.mem_iff_getElem?.mp hq'
    have h4 : (rs.map (·.a))[i]? = some q.a := by rw [List.getElem?_map, hi, e]; rfl
    have h5 : (rs.map (·.a))[j + 1]? = some q.a := by rw [List.getElem?_map, hq]; rfl
    have := nodup_get hn h4 h5
    subst this
    rw [hi] at hq; exact Option.some.inj hq
  subst this
  exact ⟨l', h1, h2, h3⟩
theorem fmod3 (x : Int) : ∃ q : Nat, x.fmod 3 = q ∧ q < 3 := by
  have h1 := Int.fmod_lt_of_pos x (b := 3) (by omega)
  have h2 := Int.fmod_nonneg_of_pos x (b := 3) (by omega)
  exact ⟨(x.fmod 3).toNat, by omega, by omega⟩
theorem law_p12 {b : Base} (G : Glb b) {N : Nat} (hN : 12 ≤ N) {A : Around} {F : Fs} {L : Addr} {l : Addr} {ns : List Int} {σ₀ τ : Sg} {rs : List Rec} {tk : List TkR} {r : Rec} {cc cn lt ltk : Addr} {body : List Stmt} (hb : fLaw.1.body = .stmts body)
    (R : Rm A (N + 10)) (I : L12 b N l ns σ₀ rs tk r cn lt ltk τ) : W b A F L (execs (body.drop 12) (fnEnv fLaw.1 L [("names", cn), ("child", cc)] 205)) τ QL := by
  have P18 := fun (nms : List Str) (du lo nb vb nt : Addr) (vsn ys zs ws : List Value) (τ : Sg) (I : L18 b N ns σ₀ rs tk r nms cn lt du lo nb vb ltk nt vsn ys zs ws τ) => law_p18 (cc := cc) (F := F) (L := L) G hN hb R I
  have hb' := FuncBody.stmts.inj (show FuncBody.stmts _ = FuncBody.stmts body from hb)
  subst hb'
  simp only [List.drop_succ_cons, List.drop_zero] at P18 ⊢
  obtain ⟨H, mS, mT, mR, mK, ⟨ucn, hcn⟩, aT, aK, ⟨ne1, ne2⟩, hTb⟩ := I
  obtain ⟨vs, hl, hi⟩ := H.scr
  have hvl := hi.length
  have hn63 := H.n63
  repeat k_subL
  refine w_newTuple (by rw [sizeLine_eq]; simp) fun a1 ha1 => ?_
  repeat k_subL
  refine w_newTuple (by rw [sizeLine_eq]; simp) fun a2 ha2 => ?_
  repeat k_subL
  refine w_newTuple (by rw [sizeLine_eq]; simp) fun a3 ha3 => ?_
  repeat k_subL
  refine w_newTuple (by rw [sizeLine_eq]; simp) fun a4 ha4 => ?_
  generalize hτ1 : Sg.put (Sg.put (Sg.put (Sg.put τ a1 _) a2 _) a3 _) a4 _ = τ1
  have eT1 : Ext τ τ1 := by rw [← hτ1]; k_offL
  obtain ⟨s1, g1⟩ : ∃ t, τ1.at_ a1 = some (.obj (tupObj [.str "b" t])) := ⟨_, by rw [← hτ1]; exact putA_new ha4 (putA_new ha3 (putA_new ha2 putA_same))⟩
  obtain ⟨s2, s3, g2⟩ : ∃ t u, τ1.at_ a2 = some (.obj (tupObj [.str "b" t, .str "c" u])) := ⟨_, _, by rw [← hτ1]; exact putA_new ha4 (putA_new ha3 putA_same)⟩
  obtain ⟨s4, g3⟩ : ∃ t, τ1.at_ a3 = some (.obj (tupObj [.str "a" t])) := ⟨_, by rw [← hτ1]; exact putA_new ha4 putA_same⟩
  have g4 : τ1.at_ a4 = some (.obj (tupObj [.ref a1, .ref a2, .ref a3])) := by rw [← hτ1]; exact putA_same
  have mS1 : τ1.m "script" = some (.ref l) := by rw [← hτ1]; exact mS
  have mT1 : τ1.m "trees" = some (.ref lt) := by rw [← hτ1]; exact mT
  have mR1 : τ1.m "root" = some (.ref r.a) := by rw [← hτ1]; exact mR
  have mK1 : τ1.m "tokens" = some (.ref ltk) := by rw [← hτ1]; exact mK
  clear hτ1 ha1 ha2 ha3 ha4 mS mT mR mK
  refine W.mono (Q := fun v τ' => ∃ (q : Nat) (t : Tok), q < 3 ∧ v = .int q t ∧ τ' = τ1) ?_ ?_
  · repeat k_subL
    refine w_truthyB' hl (by omega) ?_
    refine ⟨fun ht => ?_, fun hf => ?_⟩
    · have h0 : 0 < ns.length := by
        rw [← hvl]
        cases vs with
        | nil => cases ht
        | cons _ _ => simp
      obtain ⟨t0, ht0⟩ := intsGet hi 0 h0
      repeat k_subL
      refine w_itemB (k := 0) hl ht0 (by omega) ?_
      repeat k_subL
      refine w_modI (by decide) fun t => ?_
      obtain ⟨q, h1, h2⟩ := fmod3 (ns.getD 0 0)
      exact ⟨q, t, h2, by rw [h1], rfl⟩
    · repeat k_subL
      exact ⟨0, _, by omega, rfl, rfl⟩
  rintro _ τ1 ⟨q, t, hq, rfl, rfl⟩
  obtain ⟨nt, vsn, nms, hv, hnt, hvn⟩ : ∃ nt vsn nms, ([.ref a1, .ref a2, .ref a3] : List Value)[q]? = some (.ref nt) ∧ τ1.at_ nt = some (.obj (tupObj vsn)) ∧ ((∃ w t, vsn = [.str w t] ∧ nms = [w]) ∨ ∃ w1 t1 w2 t2, vsn = [.str w1 t1, .str w2 t2] ∧ nms = [w1, w2]) := by
    have : q = 0 ∨ q = 1 ∨ q = 2 := by omega
    rcases this with rfl | rfl | rfl
    · exact ⟨a1, _, _, rfl, g1, .inl ⟨_, _, rfl, rfl⟩⟩
    · exact ⟨a2, _, _, rfl, g2, .inr ⟨_, _, _, _, rfl, rfl⟩⟩
    · exact ⟨a3, _, _, rfl, g3, .inl ⟨_, _, rfl, rfl⟩⟩
  have hs : StrsAre vsn nms := by
    rcases hvn with ⟨w, t, rfl, rfl⟩ | ⟨w1, t1, w2, t2, rfl, rfl⟩
    · exact .cons _ _ .nil
    · exact .cons _ _ (.cons _ _ .nil)
  refine w_itemT (k := q) (v := .ref nt) g4 hv (by simp) ?_
  have hcn1 := eT1.at_ _ _ hcn
  refine w_storeC (c := cn) (u := ucn) (by with_unfolding_all rfl) hcn1 ?_
  have eC : ExtC τ1 (τ1.put cn (.cel (some (.ref nt)))) := ExtC.cell hcn1
  have X2 : Bld σ₀ (τ1.put cn (.cel (some (.ref nt)))) (built ns) rs tk := (H.bld.ext eT1).extC eC
  have hTb2 : Tabs (τ1.put cn (.cel (some (.ref nt)))) := (hTb.ext eT1).put hcn1 (by intro ps q; cases q)
  have aT2 := eC.lst (eT1.at_ _ _ aT)
  have aK2 := eC.lst (eT1.at_ _ _ aK)
  have hcn2 : (τ1.put cn (.cel (some (.ref nt)))).at_ cn = some (.cel (some (.ref nt))) := putA_same
  have hnt2 : (τ1.put cn (.cel (some (.ref nt)))).at_ nt = some (.obj (tupObj vsn)) := putA_ne (fun q => by rw [q, hcn1] at hnt; cases hnt) hnt
  have mT2 : (τ1.put cn (.cel (some (.ref nt)))).m "trees" = some (.ref lt) := mT1
  have mR2 : (τ1.put cn (.cel (some (.ref nt)))).m "root" = some (.ref r.a) := mR1
  have mK2 : (τ1.put cn (.cel (some (.ref nt)))).m "tokens" = some (.ref ltk) := mK1
  generalize (τ1.put cn (.cel (some (.ref nt)))) = τ2 at eC X2 hTb2 aT2 aK2 hcn2 hnt2 mT2 mR2 mK2 ⊢
  have hm := H.mem
  have B := H.gb
  have e := H.e
  have hr := H.hr
  clear eC g1 g2 g3 g4 hv hnt eT1 mS1 mT1 mR1 mK1 hcn hcn1 aT aK H
  have hkl := B.klen e
  have hgl := gopen_len B (nms := nms) hkl
  repeat k_subL
  refine w_call0 (f := 186) G (by kernel_rfl) ?_
  repeat k_subL
  refine WC.call (WC.mono (c_opened G (R.le (m := N + 5) (by omega)) X2.gr e (fun c hc => B.all_ _ _ _ _ _ e c hc) hnt2 hs (by omega) fun c _ d l nm ks' ec => by have := B.klen ec; omega) fun v τ3 ⟨du, hv, hdu, aD, hE3⟩ => ?_)
  subst hv
  have hneD : du ≠ r.l := Ne.symm (ne_at (X2.gr _ _ e).2 hdu)
  have X3 := X2.ext (show Ext τ2 (τ3.setL "due" (.ref du)) by k_offL)
  have hTb3 := hTb2.ext (show Ext τ2 (τ3.setL "due" (.ref du)) by k_offL)
  have aT3 : (τ3.setL "due" (.ref du)).at_ lt = _ := hE3.1.at_ _ _ aT2
  have aK3 : (τ3.setL "due" (.ref du)).at_ ltk = _ := hE3.1.at_ _ _ aK2
  have aD3 : (τ3.setL "due" (.ref du)).at_ du = _ := aD
  have hcn3 : (τ3.setL "due" (.ref du)).at_ cn = _ := hE3.1.at_ _ _ hcn2
  have hnt3 : (τ3.setL "due" (.ref du)).at_ nt = _ := hE3.1.at_ _ _ hnt2
  have mT3 : (τ3.setL "due" (.ref du)).m "trees" = some (.ref lt) := by k_clsL
  have mR3 : (τ3.setL "due" (.ref du)).m "root" = some (.ref r.a) := by k_clsL
  have mK3 : (τ3.setL "due" (.ref du)).m "tokens" = some (.ref ltk) := by k_clsL
  have mD3 : (τ3.setL "due" (.ref du)).m "due" = some (.ref du) := by k_clsL
  refine w_storeL (by with_unfolding_all rfl) ?_
  generalize (τ3.setL "due" (.ref du)) = τ4 at X3 hTb3 aT3 aK3 aD3 hcn3 hnt3 mT3 mR3 mK3 mD3 ⊢
  clear hE3 X2 aT2 aK2 hcn2 hnt2 mT2 mR2 mK2 aD hdu
  repeat k_subL
  refine w_compF (fun v => match v with | .ref c => (named (Gof rs tk) nms c).isSome | _ => false) (cl := [("names", cn)]) R.hh (by with_unfolding_all rfl) (by rfl) (by decide) (by decide) (by decide) (by decide) ?_
  repeat k_subL
  refine w_children G (X3.gr _ _ e) ?_
  refine ⟨r.l, r.ks.map .ref, rfl, (X3.gr _ _ e).2, by rw [sizeLine_eq]; simp only [List.length_map]; omega, fun v hv τ' C F' hE hmv => ?_, fun τ' acc hE hacc hmm => ?_⟩
  · obtain ⟨c, hc, rfl⟩ := List.mem_map.mp hv
    obtain ⟨nd, hnd⟩ := B.all_ _ _ _ _ _ e c hc
    have hn := (X3.gr _ _ hnd).ext hE
    repeat k_subL
    refine w_isTree (nd := nd) G hn ?_
    repeat k_subL
    refine ⟨fun hb => ?_, fun hb => ⟨?_, Ext.rfl, hmv⟩⟩
    · cases nd with
      | tok => cases hb
      | node d2 l2 nm2 ks2 =>
        repeat k_subL
        refine w_data G hn fun t => ?_
        repeat k_subL
        refine w_inT (hE.at_ _ _ hnt3) hs ?_
        repeat k_subL
        have hnm : (named (Gof rs tk) nms c).isSome = nms.any (· == nm2) := by
          exact named_is hnd
        refine ⟨fun ht => ?_, fun hf => ⟨?_, Ext.rfl, hmv⟩⟩
        · repeat k_subL
          exact ⟨by show true = (named _ _ _).isSome; rw [hnm, ht], Ext.rfl, hmv⟩
        · show false = (named _ _ _).isSome; rw [hnm, hf]
    · cases nd with
      | node => cases hb
      | tok => show false = (named _ _ _).isSome; unfold named; rw [hnd]; rfl
  have hany : (!((r.ks.map Value.ref).filter (fun v => match v with | .ref c => (named (Gof rs tk) nms c).isSome | _ => false)).isEmpty) = r.ks.any fun c => (named (Gof rs tk) nms c).isSome := by
    generalize r.ks = ks
    induction ks with
    | nil => rfl
    | cons k ks ih =>
      rw [List.map_cons, List.filter_cons, List.any_cons, ← ih]
      dsimp only
      by_cases h : (named (Gof rs tk) nms k).isSome = true
      · rw [if_pos h, h]; rfl
      · rw [if_neg h, Bool.eq_false_iff.mpr h, Bool.false_or]
  have mT4 : (τ'.put acc (.lst ((r.ks.map Value.ref).filter (fun v => match v with | .ref c => (named (Gof rs tk) nms c).isSome | _ => false)))).m "trees" = some (.ref lt) := by show τ'.m _ = _; rw [hmm]; exact mT3
  have mR4 : (τ'.put acc (.lst ((r.ks.map Value.ref).filter (fun v => match v with | .ref c => (named (Gof rs tk) nms c).isSome | _ => false)))).m "root" = some (.ref r.a) := by show τ'.m _ = _; rw [hmm]; exact mR3
  have mK4 : (τ'.put acc (.lst ((r.ks.map Value.ref).filter (fun v => match v with | .ref c => (named (Gof rs tk) nms c).isSome | _ => false)))).m "tokens" = some (.ref ltk) := by show τ'.m _ = _; rw [hmm]; exact mK3
  have mD4 : (τ'.put acc (.lst ((r.ks.map Value.ref).filter (fun v => match v with | .ref c => (named (Gof rs tk) nms c).isSome | _ => false)))).m "due" = some (.ref du) := by show τ'.m _ = _; rw [hmm]; exact mD3
  have hE4 := hE.put (c := .lst ((r.ks.map Value.ref).filter (fun v => match v with | .ref c => (named (Gof rs tk) nms c).isSome | _ => false))) hacc
  have hac : (τ'.put acc (.lst ((r.ks.map Value.ref).filter (fun v => match v with | .ref c => (named (Gof rs tk) nms c).isSome | _ => false)))).at_ acc = some (.lst ((r.ks.map Value.ref).filter (fun v => match v with | .ref c => (named (Gof rs tk) nms c).isSome | _ => false))) := putA_same
  generalize τ'.put acc (.lst ((r.ks.map Value.ref).filter (fun v => match v with | .ref c => (named (Gof rs tk) nms c).isSome | _ => false))) = τ5 at mT4 mR4 mK4 mD4 hE4 hac ⊢
  repeat k_subL
  refine w_newList (by rw [sizeLine_eq]; simp) fun le hle => ?_
  repeat k_subL
  refine w_ne0 (by have := R.r.units; omega) (putA_new hle hac) putA_same ?_
  rw [hany]
  refine w_storeL (by with_unfolding_all rfl) ?_
  have hE5 : Ext τ4 ((τ5.put le (.lst [])).setL "there" (.bool (r.ks.any fun c => (named (Gof rs tk) nms c).isSome))) := by k_offL
  have mT5 : ((τ5.put le (.lst [])).setL "there" (.bool (r.ks.any fun c => (named (Gof rs tk) nms c).isSome))).m "trees" = some (.ref lt) := by k_clsL
  have mR5 : ((τ5.put le (.lst [])).setL "there" (.bool (r.ks.any fun c => (named (Gof rs tk) nms c).isSome))).m "root" = some (.ref r.a) := by k_clsL
  have mK5 : ((τ5.put le (.lst [])).setL "there" (.bool (r.ks.any fun c => (named (Gof rs tk) nms c).isSome))).m "tokens" = some (.ref ltk) := by k_clsL
  have mD5 : ((τ5.put le (.lst [])).setL "there" (.bool (r.ks.any fun c => (named (Gof rs tk) nms c).isSome))).m "due" = some (.ref du) := by k_clsL
  have mH5 : ((τ5.put le (.lst [])).setL "there" (.bool (r.ks.any fun c => (named (Gof rs tk) nms c).isSome))).m "there" = some (.bool (r.ks.any fun c => (named (Gof rs tk) nms c).isSome)) := by k_clsL
  generalize ((τ5.put le (.lst [])).setL "there" (.bool (r.ks.any fun c => (named (Gof rs tk) nms c).isSome))) = τ6 at hE5 mT5 mR5 mK5 mD5 mH5 ⊢
  have X6 := X3.ext hE5
  have hTb6 := hTb3.ext hE5
  have aT6 := hE5.at_ _ _ aT3
  have aK6 := hE5.at_ _ _ aK3
  have aD6 := hE5.at_ _ _ aD3
  have hcn6 := hE5.at_ _ _ hcn3
  have hnt6 := hE5.at_ _ _ hnt3
  clear hE5 X3 aT3 aK3 aD3 hcn3 hnt3 mT4 mR4 mK4 mD4 mT3 mR3 mK3 mD3 hE4 hac hE hacc hmm hle hany
  have hrl : rs.length ≤ 12 := by have := B.n12; simpa using this
  have hlr := (X6.gr _ _ e).2
  repeat k_subL
  refine w_compR (fun _ => true) (OthR rs r) (cl := []) R.hh (by with_unfolding_all rfl) (by rfl) (by decide) (by decide) (by decide) ?_
  repeat k_subL
  refine w_slice (w_part1 ?_)
  repeat k_subL
  refine w_part0 fun sl hsl => ?_
  refine w_sliceAt (lo := some 1) (hi := none) (ys := ((rs.map (·.a)).drop 1).map .ref) (putA_new hsl aT6) putA_same (.int 1 _) .none (by rw [sizeLine_eq]; simp only [List.length_map]; omega) (by rw [show (some (1 : Int)) = some ((1 : Nat) : Int) from rfl, slicePick_from']; simp) fun l1 hl1 => ?_
  have eS : Ext τ6 ((τ6.put sl (.obj { cls := .type "slice", data := .fields #[.int 1 _, .none, .none] })).put l1 (.lst (((rs.map (·.a)).drop 1).map .ref))) := Ext.put (Ext.new hsl) hl1
  refine ⟨l1, _, rfl, putA_same, by rw [sizeLine_eq]; simp only [List.length_map, List.length_drop]; omega, fun v y υ υ' hEx ⟨q, h1, h2, l', h3, h4, h5⟩ => ⟨q, h1, h2, l', h3, h4, hEx.at_ _ _ h5⟩, fun v hv τ' C F' hEx hmx => ?_, fun ys' τ' acc hEx hP hacc hmm => ?_⟩
  · obtain ⟨a, ha, rfl⟩ := List.mem_map.mp hv
    obtain ⟨q, hq, rfl⟩ := List.mem_map.mp (List.mem_of_mem_drop ha)
    have hn := (X6.gr _ _ (X6.gof hq)).ext (eS.trans hEx)
    have hl2 := B.klen (X6.gof hq)
    refine w_tests0 ⟨rfl, Ext.rfl, fun _ => ?_⟩
    repeat k_subL
    refine w_children G hn ?_
    repeat k_subL
    refine w_listOf hn.2 (by rw [sizeLine_eq]; simp only [List.length_map]; omega) fun l2 hl2' => ?_
    exact ⟨Ext.new hl2', q, hq, rfl, l2, rfl, Ne.symm (ne_at ((eS.trans hEx).at_ _ _ hlr) hl2'), putA_same⟩
  rw [filterT] at hP
  have hoth := othOf X6.ra hP
  intro C m
  have hneO : acc ≠ r.l := Ne.symm (ne_at ((eS.trans hEx).at_ _ _ hlr) hacc)
  have eO : Ext τ6 ((τ'.put acc (.lst ys')).setL "others" (.ref acc)) := Ext.setL (Ext.put (eS.trans hEx) hacc)
  have eO' : Ext τ' ((τ'.put acc (.lst ys')).setL "others" (.ref acc)) := Ext.setL (Ext.new hacc)
  have mE : τ'.m = τ6.m := hmm
  have mT7 : ((τ'.put acc (.lst ys')).setL "others" (.ref acc)).m "trees" = some (.ref lt) := getL_skip (by decide) (by show τ'.m _ = _; rw [mE]; exact mT5)
  have mR7 : ((τ'.put acc (.lst ys')).setL "others" (.ref acc)).m "root" = some (.ref r.a) := getL_skip (by decide) (by show τ'.m _ = _; rw [mE]; exact mR5)
  have mK7 : ((τ'.put acc (.lst ys')).setL "others" (.ref acc)).m "tokens" = some (.ref ltk) := getL_skip (by decide) (by show τ'.m _ = _; rw [mE]; exact mK5)
  have mD7 : ((τ'.put acc (.lst ys')).setL "others" (.ref acc)).m "due" = some (.ref du) := getL_skip (by decide) (by show τ'.m _ = _; rw [mE]; exact mD5)
  have mH7 : ((τ'.put acc (.lst ys')).setL "others" (.ref acc)).m "there" = some (.bool (r.ks.any fun c => (named (Gof rs tk) nms c).isSome)) := getL_skip (by decide) (by show τ'.m _ = _; rw [mE]; exact mH5)
  have mO7 : ((τ'.put acc (.lst ys')).setL "others" (.ref acc)).m "others" = some (.ref acc) := getL_same
  have aO7 : ((τ'.put acc (.lst ys')).setL "others" (.ref acc)).at_ acc = some (.lst ys') := setA putA_same
  refine w_assignN (w_storeL (by with_unfolding_all rfl) ?_)
  show W b A F L _ _ _
  have X7 := X6.ext eO
  have hTb7 := hTb6.ext eO
  have aT7 := eO.at_ _ _ aT6
  have aK7 := eO.at_ _ _ aK6
  have aD7 := eO.at_ _ _ aD6
  have hcn7 := eO.at_ _ _ hcn6
  have hnt7 := eO.at_ _ _ hnt6
  have hoth7 : ys'.length = rs.length - 1 ∧ ∀ (j : Nat) q, rs[j + 1]? = some q → ∃ l', ys'[j]? = some (.ref l') ∧ l' ≠ r.l ∧ ((τ'.put acc (.lst ys')).setL "others" (.ref acc)).at_ l' = some (.lst (q.ks.map .ref)) :=
    ⟨hoth.1, fun j q hq => by obtain ⟨l', h1, h2, h3⟩ := hoth.2 j q hq; exact ⟨l', h1, h2, eO'.at_ _ _ h3⟩⟩
  generalize ((τ'.put acc (.lst ys')).setL "others" (.ref acc)) = τ7 at X7 hTb7 aT7 aK7 aD7 hcn7 hnt7 mT7 mR7 mK7 mD7 mH7 mO7 aO7 hoth7 ⊢
  clear eO eO' hoth hP hEx hacc hmm mE eS hl1 hsl mT5 mR5 mK5 mD5 mH5 X6 aT6 aK6 aD6 hcn6 hnt6
  -- the names
  have hlr7 := (X7.gr _ _ e).2
  have nmE : (rs.map (·.a)).map (nmOf (Gof rs tk)) = rs.map (·.nm) := by
    rw [List.map_map]
    refine List.map_congr_left fun q hq => ?_
    show nmOf _ q.a = q.nm
    unfold nmOf; rw [X7.gof hq]
  have htl : (gtoks (Gof rs tk) N r.a).length ≤ 2 ^ 11 := Nat.le_trans (gtoks_le _ N r.a) (B.gall (isTree_of e) N)
  repeat k_subL
  refine w_compR (fun _ => true) (fun v y _ => ∃ a t, v = Value.ref a ∧ y = .str (nmOf (Gof rs tk) a) t) (cl := []) R.hh (by with_unfolding_all rfl) (by rfl) (by decide) (by decide) (by decide) ?_
  repeat k_subL
  refine ⟨lt, _, rfl, aT7, by rw [sizeLine_eq]; simp only [List.length_map]; omega, fun _ _ _ _ _ h => h, fun v hv τ' C F' hEx hmx => ?_, fun zs τ' nb hEx hP hacc hmm => ?_⟩
  · obtain ⟨a, ha, rfl⟩ := List.mem_map.mp hv
    obtain ⟨q, hq, rfl⟩ := List.mem_map.mp ha
    refine w_tests0 ⟨rfl, Ext.rfl, fun _ => ?_⟩
    repeat k_subL
    refine w_data G ((X7.gr _ _ (X7.gof hq)).ext hEx) fun t => ?_
    exact ⟨Ext.rfl, q.a, t, rfl, by unfold nmOf; rw [X7.gof hq]⟩
  rw [filterT] at hP
  have zN := strsOf hP
  rw [nmE] at zN
  intro C m
  have hneN : nb ≠ r.l := Ne.symm (ne_at (hEx.at_ _ _ hlr7) hacc)
  have eO : Ext τ7 ((τ'.put nb (.lst zs)).setL "names_before" (.ref nb)) := Ext.setL (Ext.put hEx hacc)
  have mE : τ'.m = τ7.m := hmm
  have mT8 : ((τ'.put nb (.lst zs)).setL "names_before" (.ref nb)).m "trees" = some (.ref lt) := getL_skip (by decide) (by show τ'.m _ = _; rw [mE]; exact mT7)
  have mR8 : ((τ'.put nb (.lst zs)).setL "names_before" (.ref nb)).m "root" = some (.ref r.a) := getL_skip (by decide) (by show τ'.m _ = _; rw [mE]; exact mR7)
  have mK8 : ((τ'.put nb (.lst zs)).setL "names_before" (.ref nb)).m "tokens" = some (.ref ltk) := getL_skip (by decide) (by show τ'.m _ = _; rw [mE]; exact mK7)
  have mD8 : ((τ'.put nb (.lst zs)).setL "names_before" (.ref nb)).m "due" = some (.ref du) := getL_skip (by decide) (by show τ'.m _ = _; rw [mE]; exact mD7)
  have mH8 : ((τ'.put nb (.lst zs)).setL "names_before" (.ref nb)).m "there" = some (.bool (r.ks.any fun c => (named (Gof rs tk) nms c).isSome)) := getL_skip (by decide) (by show τ'.m _ = _; rw [mE]; exact mH7)
  have mO8 : ((τ'.put nb (.lst zs)).setL "names_before" (.ref nb)).m "others" = some (.ref acc) := getL_skip (by decide) (by show τ'.m _ = _; rw [mE]; exact mO7)
  have mN8 : ((τ'.put nb (.lst zs)).setL "names_before" (.ref nb)).m "names_before" = some (.ref nb) := getL_same
  have aN8 : ((τ'.put nb (.lst zs)).setL "names_before" (.ref nb)).at_ nb = some (.lst zs) := setA putA_same
  refine w_assignN (w_storeL (by with_unfolding_all rfl) ?_)
  show W b A F L _ _ _
  generalize ((τ'.put nb (.lst zs)).setL "names_before" (.ref nb)) = τ8 at eO mT8 mR8 mK8 mD8 mH8 mO8 mN8 aN8 ⊢
  have X8 := X7.ext eO
  have hTb8 := hTb7.ext eO
  have aT8 := eO.at_ _ _ aT7
  have aK8 := eO.at_ _ _ aK7
  have aD8 := eO.at_ _ _ aD7
  have aO8 := eO.at_ _ _ aO7
  have hcn8 := eO.at_ _ _ hcn7
  have hnt8 := eO.at_ _ _ hnt7
  have hoth8 : ys'.length = rs.length - 1 ∧ ∀ (j : Nat) q, rs[j + 1]? = some q → ∃ l', ys'[j]? = some (.ref l') ∧ l' ≠ r.l ∧ τ8.at_ l' = some (.lst (q.ks.map .ref)) :=
    ⟨hoth7.1, fun j q hq => by obtain ⟨l', h1, h2, h3⟩ := hoth7.2 j q hq; exact ⟨l', h1, h2, eO.at_ _ _ h3⟩⟩
  have hlr8 := (X8.gr _ _ e).2
  clear eO hP hEx hacc hmm mE mT7 mR7 mK7 mD7 mH7 mO7 X7 aT7 aK7 aD7 hcn7 hnt7 aO7 hoth7 hlr7
  repeat k_subL
  refine w_compR (fun _ => true) (fun v y υ => ∃ a, v = Value.ref a ∧ PairW υ y (kv (Gof rs tk) a).1 (kv (Gof rs tk) a).2) (cl := []) R.hh (by with_unfolding_all rfl) (by rfl) (by decide) (by decide) (by decide) ?_
  repeat k_subL
  refine ⟨ltk, _, rfl, aK8, by rw [sizeLine_eq]; simp only [List.length_map]; omega, fun v y υ υ' hEx ⟨a, h1, h2⟩ => ⟨a, h1, h2.ext hEx⟩, fun v hv τ' C F' hEx hmx => ?_, fun ws τ' vb hEx hP hacc hmm => ?_⟩
  · obtain ⟨a, ha, rfl⟩ := List.mem_map.mp hv
    obtain ⟨d, k, w, h1⟩ := gtoks_tok B N r.a a ha
    have hnd := (X8.gr _ _ h1).ext hEx
    refine w_tests0 ⟨rfl, Ext.rfl, fun _ => ?_⟩
    repeat k_subL
    refine w_type G hnd fun t => ?_
    repeat k_subL
    refine w_value G hnd fun u => ?_
    repeat k_subL
    refine w_newTuple (by rw [sizeLine_eq]; simp) fun p hp => ?_
    refine ⟨Ext.new hp, a, rfl, p, t, u, rfl, ?_⟩
    unfold kv; rw [h1]; exact putA_same
  rw [filterT] at hP
  obtain ⟨pl, pv⟩ := pairsOf hP
  intro C m
  have hneV : vb ≠ r.l := Ne.symm (ne_at (hEx.at_ _ _ hlr8) hacc)
  have eO : Ext τ8 ((τ'.put vb (.lst ws)).setL "values" (.ref vb)) := Ext.setL (Ext.put hEx hacc)
  have eO' : Ext τ' ((τ'.put vb (.lst ws)).setL "values" (.ref vb)) := Ext.setL (Ext.new hacc)
  have mE : τ'.m = τ8.m := hmm
  refine w_assignN (w_storeL (by with_unfolding_all rfl) ?_)
  refine P18 nms du acc nb vb nt vsn ys' zs ws _ ⟨X8.ext eO, hr, getL_skip (by decide) (by show τ'.m _ = _; rw [mE]; exact mT8), getL_skip (by decide) (by show τ'.m _ = _; rw [mE]; exact mR8), getL_skip (by decide) (by show τ'.m _ = _; rw [mE]; exact mD8),
    getL_skip (by decide) (by show τ'.m _ = _; rw [mE]; exact mH8), getL_skip (by decide) (by show τ'.m _ = _; rw [mE]; exact mO8), getL_skip (by decide) (by show τ'.m _ = _; rw [mE]; exact mN8), getL_same, getL_skip (by decide) (by show τ'.m _ = _; rw [mE]; exact mK8),
    eO.at_ _ _ hcn8, eO.at_ _ _ hnt8, hvn, eO.at_ _ _ aT8, eO.at_ _ _ aD8, eO.at_ _ _ aO8, eO.at_ _ _ aN8, setA putA_same, eO.at_ _ _ aK8, ⟨ne1, hneD, hneO, hneN, hneV, ne2⟩,
    ⟨hoth8.1, fun j q hq => by obtain ⟨l', h1, h2, h3⟩ := hoth8.2 j q hq; exact ⟨l', h1, h2, eO.at_ _ _ h3⟩⟩, zN, ⟨pl, fun j t ht => by obtain ⟨w, h1, h2⟩ := pv j t ht; exact ⟨w, h1, h2.ext eO'⟩⟩, hTb8.ext eO⟩
end PartC33

section PartC34
open PySem PySem.W PyProof.Rows PySem.Calls
set_option maxRecDepth 100000
set_option maxHeartbeats 400000
set_option linter.unusedVariables false

local macro_rules | `(tactic| k_clsL) => `(tactic| first
  | with_reducible assumption
  | (with_reducible show Sg.m (Sg.setL _ _ _) _ = some _; first | with_reducible exact getL_same | (apply getL_skip; with_unfolding_all decide; k_clsL))
  | (with_reducible show Sg.m (Sg.put _ _ _) _ = some _; apply putM; k_clsL)
  | (with_reducible show Sg.m (Sg.del _ _) _ = some _; apply delM; k_clsL)
  | (with_reducible show Sg.m (Sg.setM _ _) _ = some _; apply setMM; k_clsL)
  | (apply viaM; with_reducible assumption; k_clsL)
  | (apply viaE; with_reducible assumption; k_clsL))
local macro_rules | `(tactic| k_offL) => `(tactic| first
  | with_reducible assumption
  | with_reducible exact Ext.rfl
  | (with_reducible show Ext _ (Sg.setL _ _ _); refine Ext.setL ?_; k_offL)
  | (with_reducible show Ext _ (Sg.put _ _ _); refine Ext.put ?_ (by first | with_reducible assumption | with_reducible exact setA (by with_reducible assumption)); k_offL)
  | (with_reducible show Ext _ (Sg.setM _ _); refine Ext.setM ?_; k_offL)
  | (with_reducible refine Ext.tr (by with_reducible assumption) ?_; k_offL)
  | (with_reducible refine Ext.tr2 (by with_reducible assumption) ?_; k_offL))
local macro_rules | `(tactic| k_places) => `(tactic| first
  | with_reducible assumption
  | with_reducible exact putA_same
  | (with_reducible show Sg.at_ (Sg.setL _ _ _) _ = some _; apply setA; k_places)
  | (with_reducible show Sg.at_ (Sg.setM _ _) _ = some _; apply setMA; k_places)
  | (with_reducible show Sg.at_ (Sg.put _ _ _) _ = some _; apply putA_new; with_reducible assumption; k_places)
  | (apply ESt.at_; with_reducible assumption; k_places)
  | (apply Ext.at'; with_reducible assumption; k_places))
local macro_rules | `(tactic| k_subL) => `(tactic| first
  | (with_reducible show W _ _ _ _ (spliced (backTo _ (starEach [] _))) _ _; refine w_items0 ?_)
  | (with_reducible show W _ _ _ _ (spliced (backTo _ (starEach (_ :: _) _))) _ _; refine w_items ?_)
  | (with_reducible show W _ _ _ _ (eval (Expr.Name _ _) _) _ _; first | refine w_local (by with_unfolding_all rfl) (by k_clsL) ?_ | refine w_cell (by with_unfolding_all rfl) (by k_places) ?_ | (with_reducible show W _ _ _ _ (eval (Expr.Name ("Tree" : Str) _) _) _ _; refine w_glob (v := .ref 142) (by assumption) (by kernel_rfl) ?_) | (with_reducible show W _ _ _ _ (eval (Expr.Name ("Token" : Str) _) _) _ _; refine w_glob (v := .ref 45) (by assumption) (by kernel_rfl) ?_))
  | (with_reducible show W _ _ _ _ (eval (Expr.Call (Expr.Name ("isinstance" : Str) _) _ [] _) _) _ _; refine w_callB (n := "isinstance") (by assumption) boot_isi (by kernel_rfl) ?_)
  | (with_reducible show W _ _ _ _ (eval (Expr.Call (Expr.Name ("len" : Str) _) _ [] _) _) _ _; refine w_callB (n := "len") (by assumption) boot_len (by kernel_rfl) ?_)
  | (with_reducible show W _ _ _ _ (eval (Expr.Call (Expr.Name ("min" : Str) _) _ [] _) _) _ _; refine w_callB (n := "min") (by assumption) boot_min (by kernel_rfl) ?_)
  | (with_reducible show W _ _ _ _ (eval (Expr.Call (Expr.Name ("range" : Str) _) _ [] _) _) _ _; refine w_callT (n := "range") (by assumption) boot_range (by kernel_rfl) ?_)
  | (with_reducible show W _ _ _ _ (eval (Expr.Call (Expr.Name ("str" : Str) _) _ [] _) _) _ _; refine w_callT (n := "str") (by assumption) boot_str (by kernel_rfl) ?_)
  | (with_reducible show W _ _ _ _ (eval (Expr.Call (Expr.Name ("list" : Str) _) _ [] _) _) _ _; refine w_callT (n := "list") (by assumption) boot_list (by kernel_rfl) ?_)
  | (with_reducible show W _ _ _ _ (eval (Expr.Call (Expr.Name ("reversed" : Str) _) _ [] _) _) _ _; refine w_callT (n := "reversed") (by assumption) boot_rev (by kernel_rfl) ?_)
  | (with_reducible show W _ _ _ _ (eval (Expr.Call (Expr.Name ("filter" : Str) _) _ [] _) _) _ _; refine w_callT (n := "filter") (by assumption) boot_filter (by kernel_rfl) ?_)
  | (with_reducible show W _ _ _ _ (call (.builtin "len") [.ref _]) _ _; (refine w_len (by k_places) ?_ fun _ => ?_); rotate_left)
  | (with_reducible show W _ _ _ _ (binaryOp .Add (.int _ _) (.int _ _)) _ _; refine w_addI fun _ => ?_)
  | (with_reducible show W _ _ _ _ (binaryOp .Sub (.int _ _) (.int _ _)) _ _; refine w_subI fun _ => ?_)
  | (with_reducible show W _ _ _ _ (compareOp .Eq (.int _ _) (.int _ _)) _ _; refine w_eqI ?_)
  | (with_reducible show W _ _ _ _ (compareOp .NotEq (.int _ _) (.int _ _)) _ _; refine w_neI ?_)
  | (with_reducible show W _ _ _ _ (compareOp .Lt (.int _ _) (.int _ _)) _ _; refine w_ltI ?_)
  | (with_reducible show W _ _ _ _ (compareOp .Eq (.str _ _) (.str _ _)) _ _; refine w_eqS ?_)
  | (with_reducible show W _ _ _ _ (compareOp .NotEq (.bool _) (.bool _)) _ _; refine w_neB ?_)
  | (with_reducible show W _ _ _ _ (unaryOp .USub (.int _ _)) _ _; refine w_negI fun _ => ?_)
  | (with_reducible show W _ _ _ _ (unaryOp .Not _) _ _; refine w_notv ?_)
  | (with_reducible show W _ _ _ _ (eval (Expr.Attribute _ _ _) _) _ _; refine w_attr ?_)
  | (with_reducible show W _ _ _ _ (eval (Expr.List _ _) _) _ _; refine w_list ?_)
  | (with_reducible show W _ _ _ _ (eval (Expr.Tuple _ _ _) _) _ _; refine w_tuple ?_)
  | (with_reducible show W _ _ _ _ (eval (Expr.BinOp _ _ _ _) _) _ _; refine w_binop ?_)
  | (with_reducible show W _ _ _ _ (eval (Expr.Compare _ [_] [_] _) _) _ _; refine w_cmp ?_)
  | (with_reducible show W _ _ _ _ (eval (Expr.IfExp _ _ _ _) _) _ _; refine w_ifexp ?_)
  | (with_reducible show W _ _ _ _ (eval (Expr.Subscript _ _ _) _) _ _; refine w_sub ?_)
  | (with_reducible show W _ _ _ _ (eval (Expr.UnaryOp _ _ _) _) _ _; refine w_unop ?_)
  | (with_reducible show W _ _ _ _ (eval (Expr.Constant .none _ _) _) _ _; refine w_none ?_)
  | (with_reducible show W _ _ _ _ (eval (Expr.Constant (.bool _) _ _) _) _ _; refine w_tf ?_)
  | (with_reducible show W _ _ _ _ (eval (Expr.Constant (.int _) _ _) _) _ _; refine w_int ?_; intro _)
  | (with_reducible show W _ _ _ _ (eval (Expr.Constant (.str _) _ _) _) _ _; refine w_str ?_; intro _)
  | (with_reducible show W _ _ _ _ (execs [] _) _ _; refine w_nil ?_)
  | (with_reducible show W _ _ _ _ (execs (Stmt.Assign [Expr.Name _ _] (Expr.ListComp _ [Comprehension.mk _ _ _ _] _ _) _ :: _) _) _ _; refine w_cons (w_assignComp ?_))
  | (with_reducible show W _ _ _ _ (execs (Stmt.Assign [Expr.Name _ _] _ _ :: _) _) _ _; refine w_consA ?_)
  | (with_reducible show W _ _ _ _ (execs (Stmt.Assign [Expr.Attribute _ _ _] _ _ :: _) _) _ _; refine w_consAttr ?_)
  | (with_reducible show W _ _ _ _ (execs (Stmt.Assign [Expr.Subscript _ _ _] _ _ :: _) _) _ _; refine w_consSub ?_)
  | (with_reducible show W _ _ _ _ (execs (Stmt.If _ _ [] _ :: _) _) _ _; refine w_consIf ?_)
  | (with_reducible show W _ _ _ _ (execs (Stmt.If _ _ _ _ :: _) _) _ _; refine w_consElse ?_)
  | (with_reducible show W _ _ _ _ (execs (Stmt.Return (some _) _ :: _) _) _ _; refine w_consRet ?_)
  | (with_reducible show W _ _ _ _ (execs (Stmt.Break _ :: _) _) _ _; refine w_consBrk ?_)
  | (with_reducible show W _ _ _ _ (execs (Stmt.Continue _ :: _) _) _ _; refine w_consCont ?_)
  | (with_reducible show W _ _ _ _ (execs (Stmt.Expr (Expr.Call (Expr.Attribute _ _ _) [_] [] _) _ :: _) _) _ _; refine w_consApp ?_)
  | (with_reducible show W _ _ _ _ (execs (Stmt.Expr _ _ :: _) _) _ _; refine w_consE ?_)
  | (with_reducible show W _ _ _ _ (isTrue (Expr.UnaryOp .Not _ _) _ _) _ _; refine w_not ?_)
  | (with_reducible show W _ _ _ _ (isTrue (Expr.BoolOp _ _ _) _ _) _ _; refine w_bool ?_)
  | (with_reducible show W _ _ _ _ (allTrue .And [] _) _ _; refine w_andNil ?_)
  | (with_reducible show W _ _ _ _ (allTrue .Or [] _) _ _; refine w_orNil ?_)
  | (with_reducible show W _ _ _ _ (allTrue .And (_ :: _) _) _ _; refine w_and ?_)
  | (with_reducible show W _ _ _ _ (allTrue .Or (_ :: _) _) _ _; refine w_or ?_)
  | (with_reducible show W _ _ _ _ (isTrue (Expr.Compare _ [_] [_] _) _ _) _ _; refine w_tcmp ?_)
  | (with_reducible show W _ _ _ _ (isTrue _ _ _) _ _; refine w_tval ?_)
  | (with_reducible show W _ _ _ _ (storeName _ _ _) _ _; first | refine w_storeL (by with_unfolding_all rfl) ?_ | refine w_storeC (by with_unfolding_all rfl) (by k_places) ?_)
  | (with_reducible show W _ _ _ _ (tests [_] _) _ _; refine w_tests1 ?_)
  | (with_reducible show W _ _ _ _ (tests [] _) _ _; refine w_tests0 ?_)
  | (with_reducible show W _ _ _ _ (eval (Expr.ListComp _ [Comprehension.mk _ _ _ _] _ _) _) _ _; refine w_listcomp ?_)
  | (with_reducible show W _ _ _ _ (truthy (.bool _)) _ _; refine w_truthyB ?_)
  | (with_reducible show thenK _ _ Flow.next _; refine thenK_next ?_)
  | (with_reducible show thenK _ _ Flow.brk _; refine thenK_brk ?_)
  | (with_reducible show thenK _ _ Flow.cont _; refine thenK_cont ?_)
  | (with_reducible show thenK _ _ (Flow.ret _) _; refine thenK_ret ?_)
  | (with_reducible show turnK _ _ _ Flow.next _; refine turnK_next ?_)
  | (with_reducible show turnK _ _ _ Flow.brk _; refine turnK_brk ?_)
  | (with_reducible show turnK _ _ _ Flow.cont _; refine turnK_cont ?_)
  | (with_reducible show turnK _ _ _ (Flow.ret _) _; refine turnK_ret ?_))

/-- what stands before the tokens are asked -/
structure L8 (b : Base) (N : Nat) (l : Addr) (ns : List Int) (σ₀ : Sg) (rs : List Rec) (tk : List TkR) (r : Rec) (cn lt : Addr) (τ : Sg) : Prop where
  H : RootI b l ns σ₀ τ rs tk r
  mS : τ.m "script" = some (.ref l)
  mT : τ.m "trees" = some (.ref lt)
  mR : τ.m "root" = some (.ref r.a)
  hcn : ∃ u, τ.at_ cn = some (.cel u)
  aT : τ.at_ lt = some (.lst ((rs.map (·.a)).map .ref))
  ne : lt ≠ r.l
  h106 : τ.at_ 106 = some (.obj (tabObj #[]))
  h202 : τ.at_ 202 = some (.obj (tabObj #[]))
  t99 : TabAt 99 τ
theorem RootI.extC {b : Base} {l : Addr} {ns : List Int} {σ₀ σ τ : Sg} {rs : List Rec} {tk : List TkR} {r : Rec} (h : RootI b l ns σ₀ σ rs tk r) (e : ExtC σ τ) : RootI b l ns σ₀ τ rs tk r := ⟨h.scr, h.n63, h.bld.extC e, h.hr⟩
theorem gtoks_th {g : Gf} {as : List Addr} {τ : Sg} (B : Gb g as) (hG : Gr τ g) {n : Nat} {a : Addr} : ∀ x ∈ gtoks g n a, Th τ x := fun x hx => by
  obtain ⟨d, k, v, h⟩ := gtoks_tok B n a x hx
  exact Th.of (hG _ _ h)
theorem law_p8 {b : Base} (GT : GlbT b) {N : Nat} (hN : 12 ≤ N) {A : Around} {F : Fs} {L : Addr} {l : Addr} {ns : List Int} {σ₀ τ : Sg} {rs : List Rec} {tk : List TkR} {r : Rec} {cc cn lt : Addr} {body : List Stmt} (hb : fLaw.1.body = .stmts body)
    (R : Rm A (2 * N + 20)) (hF : Frs A F L) (I : L8 b N l ns σ₀ rs tk r cn lt τ) : W b A F L (execs (body.drop 8) (fnEnv fLaw.1 L [("names", cn), ("child", cc)] 205)) τ QL := by
  have G := GT.toGlb
  have P12 := fun (ltk : Addr) (τ : Sg) (I : L12 b N l ns σ₀ rs tk r cn lt ltk τ) => law_p12 (cc := cc) (F := F) (L := L) G hN hb (R.le (m := N + 10) (by omega)) I
  have hb' := FuncBody.stmts.inj (show FuncBody.stmts _ = FuncBody.stmts body from hb)
  subst hb'
  simp only [List.drop_succ_cons, List.drop_zero] at P12 ⊢
  obtain ⟨H, mS, mT, mR, ⟨ucn, hcn⟩, aT, ne1, h106, h202, t99⟩ := I
  have B := H.gb
  have e := H.e
  have hT := isTree_of e
  have hD := H.dp hN
  have htl : (gtoks (Gof rs tk) N r.a).length ≤ 2 ^ 11 := Nat.le_trans (gtoks_le _ N r.a) (B.gall hT N)
  repeat k_subL
  refine w_call0 (f := 167) G (by kernel_rfl) ?_
  repeat k_subL
  refine WC.call (WC.mono (c_tokens G (Gof rs tk) N A F L τ r.a H.bld.gr hD hT (R.le (by omega)) (by omega)) fun v τ1 ⟨ltk, hv, hk0, aK, hE1⟩ => ?_)
  subst hv
  have ne2 : ltk ≠ r.l := Ne.symm (ne_at (H.bld.gr _ _ e).2 hk0)
  have eS : Ext τ (τ1.setL "tokens" (.ref ltk)) := hE1.1.setL
  have H1 := H.extC eS.soft
  have mS1 : (τ1.setL "tokens" (.ref ltk)).m "script" = some (.ref l) := by k_clsL
  have mT1 : (τ1.setL "tokens" (.ref ltk)).m "trees" = some (.ref lt) := by k_clsL
  have mR1 : (τ1.setL "tokens" (.ref ltk)).m "root" = some (.ref r.a) := by k_clsL
  have mK1 : (τ1.setL "tokens" (.ref ltk)).m "tokens" = some (.ref ltk) := by k_clsL
  have aT1 := eS.at_ _ _ aT
  have aK1 : (τ1.setL "tokens" (.ref ltk)).at_ ltk = _ := aK
  have hcn1 := eS.at_ _ _ hcn
  have t106 := eS.at_ _ _ h106
  have t202 := eS.at_ _ _ h202
  have u99 := t99.ext eS
  refine w_storeL (by with_unfolding_all rfl) ?_
  generalize (τ1.setL "tokens" (.ref ltk)) = τ2 at H1 mS1 mT1 mR1 mK1 aT1 aK1 hcn1 t106 t202 u99 ⊢
  clear eS hE1 aK hk0 mS mT mR hcn aT h106 h202 H
  refine w_consIfP (fun τ' => Ext (τ2.del 202) τ' ∧ τ'.m = τ2.m ∧ TabAt 202 τ') ?_ ?_
  · repeat k_subL
    refine w_call0 (f := 174) G (by kernel_rfl) ?_
    repeat k_subL
    refine w_compGv (cl := []) (by with_unfolding_all rfl) (by rfl) (by decide) (by decide) (by decide) (by decide) ?_
    refine V.iterS (v_callM ?_)
    repeat k_subL
    refine w_meth (f := 125) G (H1.bld.gr _ _ e) (by kernel_rfl) (by kernel_rfl) ⟨by decide, by decide, by decide⟩ ?_
    refine v_cwK G (by kernel_rfl) ?_
    repeat k_subL
    refine w_lam3 GT t202 GT.tab3 (by with_unfolding_all rfl) (clos := []) (by with_unfolding_all rfl) (by with_unfolding_all rfl) trivial (by with_unfolding_all rfl) (by with_unfolding_all rfl) ?_
    intro f c' oc vs t' pm ctv τ3 hE3 hm3 hf hd hv hc3 hf3 hTb
    repeat k_subL
    have hG3 : Gr τ3 (Gof rs tk) := (gr_del H1.bld.gr t202).ext hE3
    obtain ⟨K, PD, hK⟩ : ∃ K, Pd b (Gof rs tk) K 1 f (fun _ => True) (fun _ => true) ∧ K τ3 := by
      refine ⟨_, pd_lam G (x := "value") (fun _ => True) ?_ hd hv rfl rfl ?_ ?_ ?_ ?_ ?_ ?_ ?_, ⟨hG3, trivial, hf3, hc3⟩⟩
      · exact fun _ _ _ _ => trivial
      · exact fun _ => rfl
      · dsimp only; decide
      · intro L'; with_unfolding_all rfl
      · intro A F L' σ t1 R hG hX hDm hm
        repeat k_subL
        exact ⟨rfl, ESt.rfl⟩
      · with_unfolding_all rfl
      · with_unfolding_all rfl
      · with_unfolding_all rfl
    refine VC.call (VC.mono (vc_scan G PD (fun _ _ _ _ => trivial) hK hT hD R.dep) fun v Fi τ4 ⟨⟨K', hg, hself, hk⟩, hE4⟩ => ⟨hself _, K', _, hg A (rm_in1 (R.le (m := 1 + 2 * N + 2 + 1) (by omega))), hself _, hk, ?_, fun τ5 acc hE5 hacc hm5 => ?_⟩)
    · rw [filterT, sizeLine_eq, List.length_map]; omega
    rw [filterT]
    have e5 : Ext (τ2.del 202) (τ5.put acc (.lst ((gtoks (Gof rs tk) N r.a).map .ref))) := ((hE3.trans hE4.1).trans hE5).put hacc
    have b5 : TabAt 202 (τ5.put acc (.lst ((gtoks (Gof rs tk) N r.a).map .ref))) := hTb.ext ((hE4.1.trans hE5).put hacc)
    have m5 : (τ5.put acc (.lst ((gtoks (Gof rs tk) N r.a).map .ref))).m = τ2.m := by show τ5.m = _; rw [hm5, hE4.2, hm3]
    have a5 : (τ5.put acc (.lst ((gtoks (Gof rs tk) N r.a).map .ref))).at_ acc = some (.lst ((gtoks (Gof rs tk) N r.a).map .ref)) := putA_same
    have hK5 : (τ5.put acc (.lst ((gtoks (Gof rs tk) N r.a).map .ref))).m "tokens" = some (.ref ltk) := by rw [m5]; exact mK1
    generalize τ5.put acc (.lst ((gtoks (Gof rs tk) N r.a).map .ref)) = τ6 at e5 m5 a5 hK5 b5 ⊢
    have hG6 : Gr τ6 (Gof rs tk) := (gr_del H1.bld.gr t202).ext e5
    repeat k_subL
    refine WC.call (WC.mono (c_alike G (R.le (m := N + 5) (by omega)) a5 (e5.at_ _ _ (del_keep t202 aK1 (by intro q; cases q))) (gtoks_th B hG6) (gtoks_th B hG6) ⟨by omega, by omega⟩) fun v τ7 ⟨hv, hE7⟩ => ?_)
    rw [show decide (gtoks (Gof rs tk) N r.a = gtoks (Gof rs tk) N r.a) = true from decide_eq_true rfl] at hv
    subst hv
    repeat k_subL
    refine ⟨fun hx => (nomatch hx), fun _ => ?_⟩
    exact ⟨e5.trans hE7.1, hE7.2.trans m5, b5.ext hE7.1⟩
  rintro τ3 ⟨hE3, hm3, b202⟩
  have u99' : TabAt 99 τ3 := u99.imp fun ps h => hE3.at_ _ _ (by show (if (99 : Addr) = 202 then none else τ2.at_ 99) = _; rw [if_neg (by decide)]; exact h)
  have H3 := H1.extC (ExtC.del t202 hE3)
  have mS3 : τ3.m "script" = some (.ref l) := by rw [hm3]; exact mS1
  have mT3 : τ3.m "trees" = some (.ref lt) := by rw [hm3]; exact mT1
  have mR3 : τ3.m "root" = some (.ref r.a) := by rw [hm3]; exact mR1
  have mK3 : τ3.m "tokens" = some (.ref ltk) := by rw [hm3]; exact mK1
  have aT3 := (ExtC.del t202 hE3).lst aT1
  have aK3 := (ExtC.del t202 hE3).lst aK1
  have hcn3 := hE3.at_ _ _ (del_keep t202 hcn1 (by intro q; cases q))
  have t106' : τ3.at_ 106 = some (.obj (tabObj #[])) := hE3.at_ _ _ (by show (if (106 : Addr) = 202 then none else τ2.at_ 106) = _; rw [if_neg (by decide)]; exact t106)
  clear hE3 hm3 H1 mS1 mT1 mR1 mK1 aT1 aK1 hcn1 t106 t202
  refine w_consIfP (fun τ' => Ext (τ3.del 106) τ' ∧ τ'.m = τ3.m ∧ TabAt 106 τ') ?_ ?_
  · repeat k_subL
    refine w_call0 (f := 174) G (by kernel_rfl) ?_
    repeat k_subL
    refine w_compGv (cl := []) (by with_unfolding_all rfl) (by rfl) (by decide) (by decide) (by decide) (by decide) ?_
    refine V.iterS (v_callM ?_)
    repeat k_subL
    refine w_meth (f := 111) G (H3.bld.gr _ _ e) (by kernel_rfl) (by kernel_rfl) ⟨by decide, by decide, by decide⟩ ?_
    refine v_cwK G (by kernel_rfl) ?_
    repeat k_subL
    refine VC.call (VC.mono (c_token GT (R.le (m := N + 3) (by omega)) H3.bld.gr hT hD t106') fun v Fi τ4 ⟨⟨K', hg, hself, hk⟩, hE4, hm4, hTb⟩ => ⟨hself _, K', _, hg A (rm_in1 (R.le (m := 1 + 2 * N + 2 + 1) (by omega))), hself _, hk, ?_, fun τ5 acc hE5 hacc hm5 => ?_⟩)
    · have := List.length_filter_le (kind1 (Gof rs tk) "X") (gtoks (Gof rs tk) N r.a)
      rw [sizeLine_eq, List.length_map]; omega
    have e5 : Ext (τ3.del 106) (τ5.put acc (.lst (((gtoks (Gof rs tk) N r.a).filter (kind1 (Gof rs tk) "X")).map .ref))) := (hE4.trans hE5).put hacc
    have b5 : TabAt 106 (τ5.put acc (.lst (((gtoks (Gof rs tk) N r.a).filter (kind1 (Gof rs tk) "X")).map .ref))) := hTb.ext (hE5.put hacc)
    have m5 : (τ5.put acc (.lst (((gtoks (Gof rs tk) N r.a).filter (kind1 (Gof rs tk) "X")).map .ref))).m = τ3.m := by show τ5.m = _; rw [hm5, hm4]
    have a5 : (τ5.put acc (.lst (((gtoks (Gof rs tk) N r.a).filter (kind1 (Gof rs tk) "X")).map .ref))).at_ acc = some (.lst (((gtoks (Gof rs tk) N r.a).filter (kind1 (Gof rs tk) "X")).map .ref)) := putA_same
    have hK5 : (τ5.put acc (.lst (((gtoks (Gof rs tk) N r.a).filter (kind1 (Gof rs tk) "X")).map .ref))).m "tokens" = some (.ref ltk) := by rw [m5]; exact mK3
    generalize τ5.put acc (.lst (((gtoks (Gof rs tk) N r.a).filter (kind1 (Gof rs tk) "X")).map .ref)) = τ6 at e5 m5 a5 hK5 b5 ⊢
    have hG6 : Gr τ6 (Gof rs tk) := (gr_del H3.bld.gr t106').ext e5
    have aK6 := e5.at_ _ _ (del_keep t106' aK3 (by intro q; cases q))
    repeat k_subL
    refine w_compF (fun v => match v with | .ref a => kind1 (Gof rs tk) "X" a | _ => false) (cl := []) R.hh (by with_unfolding_all rfl) (by rfl) (by decide) (by decide) (by decide) (by decide) ?_
    repeat k_subL
    refine ⟨ltk, _, rfl, aK6, by rw [sizeLine_eq]; simp only [List.length_map]; omega, fun v hv τ' C F' hE hmv => ?_, fun τ' acc2 hE hacc2 hmm => ?_⟩
    · obtain ⟨c, hc, rfl⟩ := List.mem_map.mp hv
      obtain ⟨d, k, w, h1⟩ := gtoks_tok B N r.a c hc
      repeat k_subL
      refine w_type G ((hG6 _ _ h1).ext hE) fun tt => ?_
      repeat k_subL
      refine ⟨?_, Ext.rfl, hmv⟩
      show _ = kind1 _ _ c
      unfold kind1; rw [h1]
    have hfil : ((gtoks (Gof rs tk) N r.a).map Value.ref).filter (fun v => match v with | .ref a => kind1 (Gof rs tk) "X" a | _ => false) = ((gtoks (Gof rs tk) N r.a).filter (kind1 (Gof rs tk) "X")).map .ref := by rw [List.filter_map]; rfl
    rw [hfil]
    have e7 := hE.put (c := .lst (((gtoks (Gof rs tk) N r.a).filter (kind1 (Gof rs tk) "X")).map .ref)) hacc2
    have m7 : (τ'.put acc2 (.lst (((gtoks (Gof rs tk) N r.a).filter (kind1 (Gof rs tk) "X")).map .ref))).m = τ3.m := by show τ'.m = _; rw [hmm, m5]
    have a7 : (τ'.put acc2 (.lst (((gtoks (Gof rs tk) N r.a).filter (kind1 (Gof rs tk) "X")).map .ref))).at_ acc2 = some (.lst (((gtoks (Gof rs tk) N r.a).filter (kind1 (Gof rs tk) "X")).map .ref)) := putA_same
    generalize τ'.put acc2 (.lst (((gtoks (Gof rs tk) N r.a).filter (kind1 (Gof rs tk) "X")).map .ref)) = τ7 at e7 m7 a7 ⊢
    have hth : ∀ x ∈ (gtoks (Gof rs tk) N r.a).filter (kind1 (Gof rs tk) "X"), Th τ7 x := fun x hx => gtoks_th B (hG6.ext e7) x (List.mem_filter.mp hx).1
    have hfl := List.length_filter_le (kind1 (Gof rs tk) "X") (gtoks (Gof rs tk) N r.a)
    repeat k_subL
    refine WC.call (WC.mono (c_alike G (R.le (m := N + 5) (by omega)) (e7.at_ _ _ a5) a7 hth hth ⟨by omega, by omega⟩) fun v τ8 ⟨hv, hE8⟩ => ?_)
    rw [show decide ((gtoks (Gof rs tk) N r.a).filter (kind1 (Gof rs tk) "X") = (gtoks (Gof rs tk) N r.a).filter (kind1 (Gof rs tk) "X")) = true from decide_eq_true rfl] at hv
    subst hv
    repeat k_subL
    refine ⟨fun hx => (nomatch hx), fun _ => ?_⟩
    exact ⟨(e5.trans e7).trans hE8.1, hE8.2.trans m7, (b5.ext e7).ext hE8.1⟩
  rintro τ4 ⟨hE4, hm4, b106⟩
  have hTb4 : Tabs τ4 := ⟨u99'.imp fun ps h => hE4.at_ _ _ (by show (if (99 : Addr) = 106 then none else τ3.at_ 99) = _; rw [if_neg (by decide)]; exact h), b106, b202.imp fun ps h => hE4.at_ _ _ (by show (if (202 : Addr) = 106 then none else τ3.at_ 202) = _; rw [if_neg (by decide)]; exact h)⟩
  have H4 := H3.extC (ExtC.del t106' hE4)
  have mS4 : τ4.m "script" = some (.ref l) := by rw [hm4]; exact mS3
  have mT4 : τ4.m "trees" = some (.ref lt) := by rw [hm4]; exact mT3
  have mR4 : τ4.m "root" = some (.ref r.a) := by rw [hm4]; exact mR3
  have mK4 : τ4.m "tokens" = some (.ref ltk) := by rw [hm4]; exact mK3
  have aT4 := (ExtC.del t106' hE4).lst aT3
  have aK4 := (ExtC.del t106' hE4).lst aK3
  have hcn4 := hE4.at_ _ _ (del_keep t106' hcn3 (by intro q; cases q))
  clear hE4 hm4 H3 mS3 mT3 mR3 mK3 aT3 aK3 hcn3 t106'
  refine w_consIfP (fun τ' => ESt τ4 τ') ?_ ?_
  · repeat k_subL
    refine w_call0 (f := 200) G (by kernel_rfl) ?_
    repeat k_subL
    refine WC.call (WC.mono (c_equal G hN (R.le (by omega)) hF H4 aK4) fun v τ5 ⟨hv, hE5⟩ => ?_)
    subst hv
    repeat k_subL
    exact ⟨fun hx => (nomatch hx), fun _ => hE5⟩
  rintro τ5 hE5
  exact P12 ltk τ5 ⟨H4.extC hE5.1.soft, by rw [hE5.2]; exact mS4, by rw [hE5.2]; exact mT4, by rw [hE5.2]; exact mR4, by rw [hE5.2]; exact mK4, ⟨ucn, hE5.1.at_ _ _ hcn4⟩, hE5.1.at_ _ _ aT4, hE5.1.at_ _ _ aK4, ⟨ne1, ne2⟩, hTb4.ext hE5.1⟩
end PartC34

section PartC35
open PySem PySem.W PyProof.Rows PySem.Calls
set_option maxRecDepth 100000
set_option maxHeartbeats 400000
set_option linter.unusedVariables false

local macro_rules | `(tactic| k_clsL) => `(tactic| first
  | with_reducible assumption
  | (with_reducible show Sg.m (Sg.setL _ _ _) _ = some _; first | with_reducible exact getL_same | (apply getL_skip; with_unfolding_all decide; k_clsL))
  | (with_reducible show Sg.m (Sg.put _ _ _) _ = some _; apply putM; k_clsL)
  | (with_reducible show Sg.m (Sg.del _ _) _ = some _; apply delM; k_clsL)
  | (with_reducible show Sg.m (Sg.setM _ _) _ = some _; apply setMM; k_clsL)
  | (apply viaM; with_reducible assumption; k_clsL)
  | (apply viaE; with_reducible assumption; k_clsL))
local macro_rules | `(tactic| k_offL) => `(tactic| first
  | with_reducible assumption
  | with_reducible exact Ext.rfl
  | (with_reducible show Ext _ (Sg.setL _ _ _); refine Ext.setL ?_; k_offL)
  | (with_reducible show Ext _ (Sg.put _ _ _); refine Ext.put ?_ (by first | with_reducible assumption | with_reducible exact setA (by with_reducible assumption)); k_offL)
  | (with_reducible show Ext _ (Sg.setM _ _); refine Ext.setM ?_; k_offL)
  | (with_reducible refine Ext.tr (by with_reducible assumption) ?_; k_offL)
  | (with_reducible refine Ext.tr2 (by with_reducible assumption) ?_; k_offL))
local macro_rules | `(tactic| k_places) => `(tactic| first
  | with_reducible assumption
  | with_reducible exact putA_same
  | (with_reducible show Sg.at_ (Sg.setL _ _ _) _ = some _; apply setA; k_places)
  | (with_reducible show Sg.at_ (Sg.setM _ _) _ = some _; apply setMA; k_places)
  | (with_reducible show Sg.at_ (Sg.put _ _ _) _ = some _; apply putA_new; with_reducible assumption; k_places)
  | (apply ESt.at_; with_reducible assumption; k_places)
  | (apply Ext.at'; with_reducible assumption; k_places))
local macro_rules | `(tactic| k_subL) => `(tactic| first
  | (with_reducible show W _ _ _ _ (spliced (backTo _ (starEach [] _))) _ _; refine w_items0 ?_)
  | (with_reducible show W _ _ _ _ (spliced (backTo _ (starEach (_ :: _) _))) _ _; refine w_items ?_)
  | (with_reducible show W _ _ _ _ (eval (Expr.Name _ _) _) _ _; first | refine w_local (by with_unfolding_all rfl) (by k_clsL) ?_ | refine w_cell (by with_unfolding_all rfl) (by k_places) ?_ | (with_reducible show W _ _ _ _ (eval (Expr.Name ("Tree" : Str) _) _) _ _; refine w_glob (v := .ref 142) (by assumption) (by kernel_rfl) ?_) | (with_reducible show W _ _ _ _ (eval (Expr.Name ("Token" : Str) _) _) _ _; refine w_glob (v := .ref 45) (by assumption) (by kernel_rfl) ?_))
  | (with_reducible show W _ _ _ _ (eval (Expr.Call (Expr.Name ("isinstance" : Str) _) _ [] _) _) _ _; refine w_callB (n := "isinstance") (by assumption) boot_isi (by kernel_rfl) ?_)
  | (with_reducible show W _ _ _ _ (eval (Expr.Call (Expr.Name ("len" : Str) _) _ [] _) _) _ _; refine w_callB (n := "len") (by assumption) boot_len (by kernel_rfl) ?_)
  | (with_reducible show W _ _ _ _ (eval (Expr.Call (Expr.Name ("min" : Str) _) _ [] _) _) _ _; refine w_callB (n := "min") (by assumption) boot_min (by kernel_rfl) ?_)
  | (with_reducible show W _ _ _ _ (eval (Expr.Call (Expr.Name ("range" : Str) _) _ [] _) _) _ _; refine w_callT (n := "range") (by assumption) boot_range (by kernel_rfl) ?_)
  | (with_reducible show W _ _ _ _ (eval (Expr.Call (Expr.Name ("str" : Str) _) _ [] _) _) _ _; refine w_callT (n := "str") (by assumption) boot_str (by kernel_rfl) ?_)
  | (with_reducible show W _ _ _ _ (eval (Expr.Call (Expr.Name ("list" : Str) _) _ [] _) _) _ _; refine w_callT (n := "list") (by assumption) boot_list (by kernel_rfl) ?_)
  | (with_reducible show W _ _ _ _ (eval (Expr.Call (Expr.Name ("reversed" : Str) _) _ [] _) _) _ _; refine w_callT (n := "reversed") (by assumption) boot_rev (by kernel_rfl) ?_)
  | (with_reducible show W _ _ _ _ (eval (Expr.Call (Expr.Name ("filter" : Str) _) _ [] _) _) _ _; refine w_callT (n := "filter") (by assumption) boot_filter (by kernel_rfl) ?_)
  | (with_reducible show W _ _ _ _ (call (.builtin "len") [.ref _]) _ _; (refine w_len (by k_places) ?_ fun _ => ?_); rotate_left)
  | (with_reducible show W _ _ _ _ (binaryOp .Add (.int _ _) (.int _ _)) _ _; refine w_addI fun _ => ?_)
  | (with_reducible show W _ _ _ _ (binaryOp .Sub (.int _ _) (.int _ _)) _ _; refine w_subI fun _ => ?_)
  | (with_reducible show W _ _ _ _ (compareOp .Eq (.int _ _) (.int _ _)) _ _; refine w_eqI ?_)
  | (with_reducible show W _ _ _ _ (compareOp .NotEq (.int _ _) (.int _ _)) _ _; refine w_neI ?_)
  | (with_reducible show W _ _ _ _ (compareOp .Lt (.int _ _) (.int _ _)) _ _; refine w_ltI ?_)
  | (with_reducible show W _ _ _ _ (compareOp .Eq (.str _ _) (.str _ _)) _ _; refine w_eqS ?_)
  | (with_reducible show W _ _ _ _ (compareOp .NotEq (.bool _) (.bool _)) _ _; refine w_neB ?_)
  | (with_reducible show W _ _ _ _ (unaryOp .USub (.int _ _)) _ _; refine w_negI fun _ => ?_)
  | (with_reducible show W _ _ _ _ (unaryOp .Not _) _ _; refine w_notv ?_)
  | (with_reducible show W _ _ _ _ (eval (Expr.Attribute _ _ _) _) _ _; refine w_attr ?_)
  | (with_reducible show W _ _ _ _ (eval (Expr.List _ _) _) _ _; refine w_list ?_)
  | (with_reducible show W _ _ _ _ (eval (Expr.Tuple _ _ _) _) _ _; refine w_tuple ?_)
  | (with_reducible show W _ _ _ _ (eval (Expr.BinOp _ _ _ _) _) _ _; refine w_binop ?_)
  | (with_reducible show W _ _ _ _ (eval (Expr.Compare _ [_] [_] _) _) _ _; refine w_cmp ?_)
  | (with_reducible show W _ _ _ _ (eval (Expr.IfExp _ _ _ _) _) _ _; refine w_ifexp ?_)
  | (with_reducible show W _ _ _ _ (eval (Expr.Subscript _ _ _) _) _ _; refine w_sub ?_)
  | (with_reducible show W _ _ _ _ (eval (Expr.UnaryOp _ _ _) _) _ _; refine w_unop ?_)
  | (with_reducible show W _ _ _ _ (eval (Expr.Constant .none _ _) _) _ _; refine w_none ?_)
  | (with_reducible show W _ _ _ _ (eval (Expr.Constant (.bool _) _ _) _) _ _; refine w_tf ?_)
  | (with_reducible show W _ _ _ _ (eval (Expr.Constant (.int _) _ _) _) _ _; refine w_int ?_; intro _)
  | (with_reducible show W _ _ _ _ (eval (Expr.Constant (.str _) _ _) _) _ _; refine w_str ?_; intro _)
  | (with_reducible show W _ _ _ _ (execs [] _) _ _; refine w_nil ?_)
  | (with_reducible show W _ _ _ _ (execs (Stmt.Assign [Expr.Name _ _] (Expr.ListComp _ [Comprehension.mk _ _ _ _] _ _) _ :: _) _) _ _; refine w_cons (w_assignComp ?_))
  | (with_reducible show W _ _ _ _ (execs (Stmt.Assign [Expr.Name _ _] _ _ :: _) _) _ _; refine w_consA ?_)
  | (with_reducible show W _ _ _ _ (execs (Stmt.Assign [Expr.Attribute _ _ _] _ _ :: _) _) _ _; refine w_consAttr ?_)
  | (with_reducible show W _ _ _ _ (execs (Stmt.Assign [Expr.Subscript _ _ _] _ _ :: _) _) _ _; refine w_consSub ?_)
  | (with_reducible show W _ _ _ _ (execs (Stmt.If _ _ [] _ :: _) _) _ _; refine w_consIf ?_)
  | (with_reducible show W _ _ _ _ (execs (Stmt.If _ _ _ _ :: _) _) _ _; refine w_consElse ?_)
  | (with_reducible show W _ _ _ _ (execs (Stmt.Return (some _) _ :: _) _) _ _; refine w_consRet ?_)
  | (with_reducible show W _ _ _ _ (execs (Stmt.Break _ :: _) _) _ _; refine w_consBrk ?_)
  | (with_reducible show W _ _ _ _ (execs (Stmt.Continue _ :: _) _) _ _; refine w_consCont ?_)
  | (with_reducible show W _ _ _ _ (execs (Stmt.Expr (Expr.Call (Expr.Attribute _ _ _) [_] [] _) _ :: _) _) _ _; refine w_consApp ?_)
  | (with_reducible show W _ _ _ _ (execs (Stmt.Expr _ _ :: _) _) _ _; refine w_consE ?_)
  | (with_reducible show W _ _ _ _ (isTrue (Expr.UnaryOp .Not _ _) _ _) _ _; refine w_not ?_)
  | (with_reducible show W _ _ _ _ (isTrue (Expr.BoolOp _ _ _) _ _) _ _; refine w_bool ?_)
  | (with_reducible show W _ _ _ _ (allTrue .And [] _) _ _; refine w_andNil ?_)
  | (with_reducible show W _ _ _ _ (allTrue .Or [] _) _ _; refine w_orNil ?_)
  | (with_reducible show W _ _ _ _ (allTrue .And (_ :: _) _) _ _; refine w_and ?_)
  | (with_reducible show W _ _ _ _ (allTrue .Or (_ :: _) _) _ _; refine w_or ?_)
  | (with_reducible show W _ _ _ _ (isTrue (Expr.Compare _ [_] [_] _) _ _) _ _; refine w_tcmp ?_)
  | (with_reducible show W _ _ _ _ (isTrue _ _ _) _ _; refine w_tval ?_)
  | (with_reducible show W _ _ _ _ (storeName _ _ _) _ _; first | refine w_storeL (by with_unfolding_all rfl) ?_ | refine w_storeC (by with_unfolding_all rfl) (by k_places) ?_)
  | (with_reducible show W _ _ _ _ (tests [_] _) _ _; refine w_tests1 ?_)
  | (with_reducible show W _ _ _ _ (tests [] _) _ _; refine w_tests0 ?_)
  | (with_reducible show W _ _ _ _ (eval (Expr.ListComp _ [Comprehension.mk _ _ _ _] _ _) _) _ _; refine w_listcomp ?_)
  | (with_reducible show W _ _ _ _ (truthy (.bool _)) _ _; refine w_truthyB ?_)
  | (with_reducible show thenK _ _ Flow.next _; refine thenK_next ?_)
  | (with_reducible show thenK _ _ Flow.brk _; refine thenK_brk ?_)
  | (with_reducible show thenK _ _ Flow.cont _; refine thenK_cont ?_)
  | (with_reducible show thenK _ _ (Flow.ret _) _; refine thenK_ret ?_)
  | (with_reducible show turnK _ _ _ Flow.next _; refine turnK_next ?_)
  | (with_reducible show turnK _ _ _ Flow.brk _; refine turnK_brk ?_)
  | (with_reducible show turnK _ _ _ Flow.cont _; refine turnK_cont ?_)
  | (with_reducible show turnK _ _ _ (Flow.ret _) _; refine turnK_ret ?_))

/-- the trees told -/
def told (g : Gf) (N : Nat) (r : Addr) : List Addr := (bfs g ((gdown g N r).length + 1) [r] []).reverse
/-- what stands while the told trees are looked at -/
structure L6 (b : Base) (N : Nat) (l : Addr) (ns : List Int) (σ₀ : Sg) (rs : List Rec) (tk : List TkR) (r : Rec) (cc cn lt ld lto : Addr) (τ : Sg) : Prop where
  H : RootI b l ns σ₀ τ rs tk r
  mS : τ.m "script" = some (.ref l)
  mT : τ.m "trees" = some (.ref lt)
  mR : τ.m "root" = some (.ref r.a)
  mD : τ.m "down" = some (.ref ld)
  mO : τ.m "told" = some (.ref lto)
  hcc : ∃ u, τ.at_ cc = some (.cel u)
  hcn : ∃ u, τ.at_ cn = some (.cel u)
  aT : τ.at_ lt = some (.lst ((rs.map (·.a)).map .ref))
  aD : τ.at_ ld = some (.lst ((gdown (Gof rs tk) N r.a).map .ref))
  aO : τ.at_ lto = some (.lst ((told (Gof rs tk) N r.a).map .ref))
  ne : lt ≠ r.l
  h99 : τ.at_ 99 = some (.obj (tabObj #[]))
  h106 : τ.at_ 106 = some (.obj (tabObj #[]))
  h202 : τ.at_ 202 = some (.obj (tabObj #[]))
section
variable {b : Base} {N : Nat} {l : Addr} {ns : List Int} {σ₀ τ τ' : Sg} {rs : List Rec} {tk : List TkR} {r : Rec} {cc cn lt ld lto : Addr}
theorem L6.ext (I : L6 b N l ns σ₀ rs tk r cc cn lt ld lto τ) (e : Ext τ τ') (h1 : τ'.m "script" = τ.m "script") (h2 : τ'.m "trees" = τ.m "trees") (h3 : τ'.m "root" = τ.m "root") (h4 : τ'.m "down" = τ.m "down") (h5 : τ'.m "told" = τ.m "told") : L6 b N l ns σ₀ rs tk r cc cn lt ld lto τ' :=
  ⟨I.H.extC e.soft, h1.trans I.mS, h2.trans I.mT, h3.trans I.mR, h4.trans I.mD, h5.trans I.mO, I.hcc.imp fun u h => e.at_ _ _ h, I.hcn.imp fun u h => e.at_ _ _ h, e.at_ _ _ I.aT, e.at_ _ _ I.aD, e.at_ _ _ I.aO, I.ne, e.at_ _ _ I.h99, e.at_ _ _ I.h106, e.at_ _ _ I.h202⟩
theorem L6.cell (I : L6 b N l ns σ₀ rs tk r cc cn lt ld lto τ) {v : Option Value} : L6 b N l ns σ₀ rs tk r cc cn lt ld lto (τ.put cc (.cel v)) := by
  obtain ⟨u, hu⟩ := I.hcc
  have e : ExtC τ (τ.put cc (.cel v)) := ExtC.cell hu
  have tab : ∀ P, τ.at_ P = some (.obj (tabObj #[])) → (τ.put cc (.cel v)).at_ P = some (.obj (tabObj #[])) := fun P h => putA_ne (fun q => by rw [q, hu] at h; cases h) h
  refine ⟨I.H.extC e, I.mS, I.mT, I.mR, I.mD, I.mO, ⟨v, putA_same⟩, ?_, e.lst I.aT, e.lst I.aD, e.lst I.aO, I.ne, tab _ I.h99, tab _ I.h106, tab _ I.h202⟩
  obtain ⟨u', hu'⟩ := I.hcn
  by_cases q : cn = cc
  · subst q; exact ⟨v, putA_same⟩
  · exact ⟨u', putA_ne q hu'⟩
theorem L6.gb (I : L6 b N l ns σ₀ rs tk r cc cn lt ld lto τ) : Gb (Gof rs tk) (rs.map (·.a)) := I.H.gb
end
theorem told_tree {g : Gf} {as : List Addr} (B : Gb g as) {N : Nat} (hN : as.length ≤ N) {r : Addr} (hr : as[0]? = some r) : ∀ x ∈ told g N r, isTree g x = true := fun x hx => (B.bi (B.fing hN) hr).tS x (List.mem_reverse.mp hx)
theorem told_len {g : Gf} {as : List Addr} (B : Gb g as) {N : Nat} (hN : as.length ≤ N) {r : Addr} (hr : as[0]? = some r) : (told g N r).length ≤ 12 := by
  have := (B.once (B.fing hN) hr).2
  have h2 := B.n12
  unfold told; omega

theorem law_p7 {b : Base} (GT : GlbT b) {N : Nat} (hN : 12 ≤ N) {A : Around} {F : Fs} {L : Addr} {l : Addr} {ns : List Int} {σ₀ τ : Sg} {rs : List Rec} {tk : List TkR} {r : Rec} {cc cn lt ld lto : Addr} {body : List Stmt} (hb : fLaw.1.body = .stmts body)
    (R : Rm A (2 * N + 20)) (hF : Frs A F L) (I : L6 b N l ns σ₀ rs tk r cc cn lt ld lto τ) : W b A F L (execs (body.drop 7) (fnEnv fLaw.1 L [("names", cn), ("child", cc)] 205)) τ QL := by
  have G := GT.toGlb
  have P8 := fun (τ : Sg) (I : L8 b N l ns σ₀ rs tk r cn lt τ) => law_p8 (cc := cc) (F := F) (L := L) GT hN hb R hF I
  have hb' := FuncBody.stmts.inj (show FuncBody.stmts _ = FuncBody.stmts body from hb)
  subst hb'
  simp only [List.drop_succ_cons, List.drop_zero] at P8 ⊢
  obtain ⟨H, mS, mT, mR, mD, mO, hcc, hcn, aT, aD, aO, ne1, h99, h106, h202⟩ := I
  have B := H.gb
  have e := H.e
  have hT := isTree_of e
  have hlN : (rs.map (·.a)).length ≤ N := by have := B.n12; omega
  have Fg := B.fing hlN
  have hgl : (gdown (Gof rs tk) N r.a).length ≤ 2 ^ 11 := Nat.le_trans (gdown_le _ N r.a) (B.gall hT N)
  have htt := told_tree B hlN H.hr0
  have htl := told_len B hlN H.hr0
  refine w_consIfP (fun τ' => Ext (τ.del 99) τ' ∧ τ'.m = τ.m ∧ TabAt 99 τ') ?_ ?_
  · repeat k_subL
    refine w_call0 (f := 174) G (by kernel_rfl) ?_
    repeat k_subL
    refine w_compGv (cl := []) (by with_unfolding_all rfl) (by rfl) (by decide) (by decide) (by decide) (by decide) ?_
    refine V.iterS (v_callM ?_)
    repeat k_subL
    refine w_meth (f := 104) G (H.bld.gr _ _ e) (by kernel_rfl) (by kernel_rfl) ⟨by decide, by decide, by decide⟩ ?_
    refine v_cwK G (by kernel_rfl) ?_
    repeat k_subL
    refine VC.call (VC.mono (c_data GT Fg (R.le (m := N + 3) (by omega)) H.bld.gr hT (by omega) h99 (fun y hy => htt y (List.mem_reverse.mpr hy))) fun v Fi τ4 ⟨⟨K', hg, hself, hk⟩, hE4, hm4, hTb⟩ => ⟨hself _, K', _, hg A (rm_in1 (R.le (m := 1 + 1) (by omega))), hself _, hk, ?_, fun τ5 acc hE5 hacc hm5 => ?_⟩)
    · have := List.length_filter_le (named1 (Gof rs tk) "b") (told (Gof rs tk) N r.a)
      rw [sizeLine_eq, List.length_map]
      show ((told (Gof rs tk) N r.a).filter _).length ≤ _
      omega
    have e5 : Ext (τ.del 99) (τ5.put acc (.lst (((told (Gof rs tk) N r.a).filter (named1 (Gof rs tk) "b")).map .ref))) := (hE4.trans hE5).put hacc
    have b5 : TabAt 99 (τ5.put acc (.lst (((told (Gof rs tk) N r.a).filter (named1 (Gof rs tk) "b")).map .ref))) := hTb.ext (hE5.put hacc)
    have m5 : (τ5.put acc (.lst (((told (Gof rs tk) N r.a).filter (named1 (Gof rs tk) "b")).map .ref))).m = τ.m := by show τ5.m = _; rw [hm5, hm4]
    have a5 : (τ5.put acc (.lst (((told (Gof rs tk) N r.a).filter (named1 (Gof rs tk) "b")).map .ref))).at_ acc = some (.lst (((told (Gof rs tk) N r.a).filter (named1 (Gof rs tk) "b")).map .ref)) := putA_same
    have hO5 : (τ5.put acc (.lst (((told (Gof rs tk) N r.a).filter (named1 (Gof rs tk) "b")).map .ref))).m "told" = some (.ref lto) := by rw [m5]; exact mO
    show W b A F L _ (τ5.put acc (.lst (((told (Gof rs tk) N r.a).filter (named1 (Gof rs tk) "b")).map .ref))) _
    generalize τ5.put acc (.lst (((told (Gof rs tk) N r.a).filter (named1 (Gof rs tk) "b")).map .ref)) = τ6 at e5 m5 a5 hO5 b5 ⊢
    have hG6 : Gr τ6 (Gof rs tk) := (gr_del H.bld.gr h99).ext e5
    have aO6 := e5.at_ _ _ (del_keep h99 aO (by intro q; cases q))
    repeat k_subL
    refine w_compF (fun v => match v with | .ref a => named1 (Gof rs tk) "b" a | _ => false) (cl := []) R.hh (by with_unfolding_all rfl) (by rfl) (by decide) (by decide) (by decide) (by decide) ?_
    repeat k_subL
    refine ⟨lto, _, rfl, aO6, by rw [sizeLine_eq]; simp only [List.length_map]; omega, fun v hv τ' C F' hE hmv => ?_, fun τ' acc2 hE hacc2 hmm => ?_⟩
    · obtain ⟨c, hc, rfl⟩ := List.mem_map.mp hv
      obtain ⟨d, ll, nm, ks, h1⟩ := node_of (htt c hc)
      repeat k_subL
      refine w_data G ((hG6 _ _ h1).ext hE) fun tt => ?_
      repeat k_subL
      refine ⟨?_, Ext.rfl, hmv⟩
      show _ = named1 _ _ c
      unfold named1; rw [h1]
    have hfil : ((told (Gof rs tk) N r.a).map Value.ref).filter (fun v => match v with | .ref a => named1 (Gof rs tk) "b" a | _ => false) = ((told (Gof rs tk) N r.a).filter (named1 (Gof rs tk) "b")).map .ref := by rw [List.filter_map]; rfl
    rw [hfil]
    have e7 := hE.put (c := .lst (((told (Gof rs tk) N r.a).filter (named1 (Gof rs tk) "b")).map .ref)) hacc2
    have m7 : (τ'.put acc2 (.lst (((told (Gof rs tk) N r.a).filter (named1 (Gof rs tk) "b")).map .ref))).m = τ.m := by show τ'.m = _; rw [hmm, m5]
    have a7 : (τ'.put acc2 (.lst (((told (Gof rs tk) N r.a).filter (named1 (Gof rs tk) "b")).map .ref))).at_ acc2 = some (.lst (((told (Gof rs tk) N r.a).filter (named1 (Gof rs tk) "b")).map .ref)) := putA_same
    generalize τ'.put acc2 (.lst (((told (Gof rs tk) N r.a).filter (named1 (Gof rs tk) "b")).map .ref)) = τ7 at e7 m7 a7 ⊢
    have hth : ∀ x ∈ (told (Gof rs tk) N r.a).filter (named1 (Gof rs tk) "b"), Th τ7 x := fun x hx => by
      obtain ⟨_, _, _, _, h1⟩ := node_of (htt x (List.mem_filter.mp hx).1)
      exact Th.of ((hG6.ext e7) _ _ h1)
    have hfl := List.length_filter_le (named1 (Gof rs tk) "b") (told (Gof rs tk) N r.a)
    repeat k_subL
    refine WC.call (WC.mono (c_alike G (R.le (m := N + 5) (by omega)) (e7.at_ _ _ a5) a7 hth hth ⟨by omega, by omega⟩) fun v τ8 ⟨hv, hE8⟩ => ?_)
    rw [show decide ((told (Gof rs tk) N r.a).filter (named1 (Gof rs tk) "b") = (told (Gof rs tk) N r.a).filter (named1 (Gof rs tk) "b")) = true from decide_eq_true rfl] at hv
    subst hv
    repeat k_subL
    refine ⟨fun hx => (nomatch hx), fun _ => ?_⟩
    exact ⟨(e5.trans e7).trans hE8.1, hE8.2.trans m7, (b5.ext e7).ext hE8.1⟩
  rintro τ4 ⟨hE4, hm4, b99⟩
  have eC := ExtC.del h99 hE4
  obtain ⟨u, hu⟩ := hcn
  have tab : ∀ P, P ≠ 99 → τ.at_ P = some (.obj (tabObj #[])) → τ4.at_ P = some (.obj (tabObj #[])) := fun P hP h => hE4.at_ _ _ (by show (if P = 99 then none else τ.at_ P) = _; rw [if_neg hP]; exact h)
  exact P8 τ4 ⟨H.extC eC, by rw [hm4]; exact mS, by rw [hm4]; exact mT, by rw [hm4]; exact mR, ⟨u, hE4.at_ _ _ (del_keep h99 hu (by intro q; cases q))⟩, eC.lst aT, ne1, tab _ (by decide) h106, tab _ (by decide) h202, b99⟩
end PartC35

section PartC36
open PySem PySem.W PyProof.Rows PySem.Calls
set_option maxRecDepth 100000
set_option maxHeartbeats 400000
set_option linter.unusedVariables false

local macro_rules | `(tactic| k_clsL) => `(tactic| first
  | with_reducible assumption
  | (with_reducible show Sg.m (Sg.setL _ _ _) _ = some _; first | with_reducible exact getL_same | (apply getL_skip; with_unfolding_all decide; k_clsL))
  | (with_reducible show Sg.m (Sg.put _ _ _) _ = some _; apply putM; k_clsL)
  | (with_reducible show Sg.m (Sg.del _ _) _ = some _; apply delM; k_clsL)
  | (with_reducible show Sg.m (Sg.setM _ _) _ = some _; apply setMM; k_clsL)
  | (apply viaM; with_reducible assumption; k_clsL)
  | (apply viaE; with_reducible assumption; k_clsL))
local macro_rules | `(tactic| k_offL) => `(tactic| first
  | with_reducible assumption
  | with_reducible exact Ext.rfl
  | (with_reducible show Ext _ (Sg.setL _ _ _); refine Ext.setL ?_; k_offL)
  | (with_reducible show Ext _ (Sg.put _ _ _); refine Ext.put ?_ (by first | with_reducible assumption | with_reducible exact setA (by with_reducible assumption)); k_offL)
  | (with_reducible show Ext _ (Sg.setM _ _); refine Ext.setM ?_; k_offL)
  | (with_reducible refine Ext.tr (by with_reducible assumption) ?_; k_offL)
  | (with_reducible refine Ext.tr2 (by with_reducible assumption) ?_; k_offL))
local macro_rules | `(tactic| k_places) => `(tactic| first
  | with_reducible assumption
  | with_reducible exact putA_same
  | (with_reducible show Sg.at_ (Sg.setL _ _ _) _ = some _; apply setA; k_places)
  | (with_reducible show Sg.at_ (Sg.setM _ _) _ = some _; apply setMA; k_places)
  | (with_reducible show Sg.at_ (Sg.put _ _ _) _ = some _; apply putA_new; with_reducible assumption; k_places)
  | (apply ESt.at_; with_reducible assumption; k_places)
  | (apply Ext.at'; with_reducible assumption; k_places))
local macro_rules | `(tactic| k_subL) => `(tactic| first
  | (with_reducible show W _ _ _ _ (spliced (backTo _ (starEach [] _))) _ _; refine w_items0 ?_)
  | (with_reducible show W _ _ _ _ (spliced (backTo _ (starEach (_ :: _) _))) _ _; refine w_items ?_)
  | (with_reducible show W _ _ _ _ (eval (Expr.Name _ _) _) _ _; first | refine w_local (by with_unfolding_all rfl) (by k_clsL) ?_ | refine w_cell (by with_unfolding_all rfl) (by k_places) ?_ | (with_reducible show W _ _ _ _ (eval (Expr.Name ("Tree" : Str) _) _) _ _; refine w_glob (v := .ref 142) (by assumption) (by kernel_rfl) ?_) | (with_reducible show W _ _ _ _ (eval (Expr.Name ("Token" : Str) _) _) _ _; refine w_glob (v := .ref 45) (by assumption) (by kernel_rfl) ?_))
  | (with_reducible show W _ _ _ _ (eval (Expr.Call (Expr.Name ("isinstance" : Str) _) _ [] _) _) _ _; refine w_callB (n := "isinstance") (by assumption) boot_isi (by kernel_rfl) ?_)
  | (with_reducible show W _ _ _ _ (eval (Expr.Call (Expr.Name ("len" : Str) _) _ [] _) _) _ _; refine w_callB (n := "len") (by assumption) boot_len (by kernel_rfl) ?_)
  | (with_reducible show W _ _ _ _ (eval (Expr.Call (Expr.Name ("min" : Str) _) _ [] _) _) _ _; refine w_callB (n := "min") (by assumption) boot_min (by kernel_rfl) ?_)
  | (with_reducible show W _ _ _ _ (eval (Expr.Call (Expr.Name ("range" : Str) _) _ [] _) _) _ _; refine w_callT (n := "range") (by assumption) boot_range (by kernel_rfl) ?_)
  | (with_reducible show W _ _ _ _ (eval (Expr.Call (Expr.Name ("str" : Str) _) _ [] _) _) _ _; refine w_callT (n := "str") (by assumption) boot_str (by kernel_rfl) ?_)
  | (with_reducible show W _ _ _ _ (eval (Expr.Call (Expr.Name ("list" : Str) _) _ [] _) _) _ _; refine w_callT (n := "list") (by assumption) boot_list (by kernel_rfl) ?_)
  | (with_reducible show W _ _ _ _ (eval (Expr.Call (Expr.Name ("reversed" : Str) _) _ [] _) _) _ _; refine w_callT (n := "reversed") (by assumption) boot_rev (by kernel_rfl) ?_)
  | (with_reducible show W _ _ _ _ (eval (Expr.Call (Expr.Name ("filter" : Str) _) _ [] _) _) _ _; refine w_callT (n := "filter") (by assumption) boot_filter (by kernel_rfl) ?_)
  | (with_reducible show W _ _ _ _ (call (.builtin "len") [.ref _]) _ _; (refine w_len (by k_places) ?_ fun _ => ?_); rotate_left)
  | (with_reducible show W _ _ _ _ (binaryOp .Add (.int _ _) (.int _ _)) _ _; refine w_addI fun _ => ?_)
  | (with_reducible show W _ _ _ _ (binaryOp .Sub (.int _ _) (.int _ _)) _ _; refine w_subI fun _ => ?_)
  | (with_reducible show W _ _ _ _ (compareOp .Eq (.int _ _) (.int _ _)) _ _; refine w_eqI ?_)
  | (with_reducible show W _ _ _ _ (compareOp .NotEq (.int _ _) (.int _ _)) _ _; refine w_neI ?_)
  | (with_reducible show W _ _ _ _ (compareOp .Lt (.int _ _) (.int _ _)) _ _; refine w_ltI ?_)
  | (with_reducible show W _ _ _ _ (compareOp .Eq (.str _ _) (.str _ _)) _ _; refine w_eqS ?_)
  | (with_reducible show W _ _ _ _ (compareOp .NotEq (.bool _) (.bool _)) _ _; refine w_neB ?_)
  | (with_reducible show W _ _ _ _ (unaryOp .USub (.int _ _)) _ _; refine w_negI fun _ => ?_)
  | (with_reducible show W _ _ _ _ (unaryOp .Not _) _ _; refine w_notv ?_)
  | (with_reducible show W _ _ _ _ (eval (Expr.Attribute _ _ _) _) _ _; refine w_attr ?_)
  | (with_reducible show W _ _ _ _ (eval (Expr.List _ _) _) _ _; refine w_list ?_)
  | (with_reducible show W _ _ _ _ (eval (Expr.Tuple _ _ _) _) _ _; refine w_tuple ?_)
  | (with_reducible show W _ _ _ _ (eval (Expr.BinOp _ _ _ _) _) _ _; refine w_binop ?_)
  | (with_reducible show W _ _ _ _ (eval (Expr.Compare _ [_] [_] _) _) _ _; refine w_cmp ?_)
  | (with_reducible show W _ _ _ _ (eval (Expr.IfExp _ _ _ _) _) _ _; refine w_ifexp ?_)
  | (with_reducible show W _ _ _ _ (eval (Expr.Subscript _ _ _) _) _ _; refine w_sub ?_)
  | (with_reducible show W _ _ _ _ (eval (Expr.UnaryOp _ _ _) _) _ _; refine w_unop ?_)
  | (with_reducible show W _ _ _ _ (eval (Expr.Constant .none _ _) _) _ _; refine w_none ?_)
  | (with_reducible show W _ _ _ _ (eval (Expr.Constant (.bool _) _ _) _) _ _; refine w_tf ?_)
  | (with_reducible show W _ _ _ _ (eval (Expr.Constant (.int _) _ _) _) _ _; refine w_int ?_; intro _)
  | (with_reducible show W _ _ _ _ (eval (Expr.Constant (.str _) _ _) _) _ _; refine w_str ?_; intro _)
  | (with_reducible show W _ _ _ _ (execs [] _) _ _; refine w_nil ?_)
  | (with_reducible show W _ _ _ _ (execs (Stmt.Assign [Expr.Name _ _] (Expr.ListComp _ [Comprehension.mk _ _ _ _] _ _) _ :: _) _) _ _; refine w_cons (w_assignComp ?_))
  | (with_reducible show W _ _ _ _ (execs (Stmt.Assign [Expr.Name _ _] _ _ :: _) _) _ _; refine w_consA ?_)
  | (with_reducible show W _ _ _ _ (execs (Stmt.Assign [Expr.Attribute _ _ _] _ _ :: _) _) _ _; refine w_consAttr ?_)
  | (with_reducible show W _ _ _ _ (execs (Stmt.Assign [Expr.Subscript _ _ _] _ _ :: _) _) _ _; refine w_consSub ?_)
  | (with_reducible show W _ _ _ _ (execs (Stmt.If _ _ [] _ :: _) _) _ _; refine w_consIf ?_)
  | (with_reducible show W _ _ _ _ (execs (Stmt.If _ _ _ _ :: _) _) _ _; refine w_consElse ?_)
  | (with_reducible show W _ _ _ _ (execs (Stmt.Return (some _) _ :: _) _) _ _; refine w_consRet ?_)
  | (with_reducible show W _ _ _ _ (execs (Stmt.Break _ :: _) _) _ _; refine w_consBrk ?_)
  | (with_reducible show W _ _ _ _ (execs (Stmt.Continue _ :: _) _) _ _; refine w_consCont ?_)
  | (with_reducible show W _ _ _ _ (execs (Stmt.Expr (Expr.Call (Expr.Attribute _ _ _) [_] [] _) _ :: _) _) _ _; refine w_consApp ?_)
  | (with_reducible show W _ _ _ _ (execs (Stmt.Expr _ _ :: _) _) _ _; refine w_consE ?_)
  | (with_reducible show W _ _ _ _ (isTrue (Expr.UnaryOp .Not _ _) _ _) _ _; refine w_not ?_)
  | (with_reducible show W _ _ _ _ (isTrue (Expr.BoolOp _ _ _) _ _) _ _; refine w_bool ?_)
  | (with_reducible show W _ _ _ _ (allTrue .And [] _) _ _; refine w_andNil ?_)
  | (with_reducible show W _ _ _ _ (allTrue .Or [] _) _ _; refine w_orNil ?_)
  | (with_reducible show W _ _ _ _ (allTrue .And (_ :: _) _) _ _; refine w_and ?_)
  | (with_reducible show W _ _ _ _ (allTrue .Or (_ :: _) _) _ _; refine w_or ?_)
  | (with_reducible show W _ _ _ _ (isTrue (Expr.Compare _ [_] [_] _) _ _) _ _; refine w_tcmp ?_)
  | (with_reducible show W _ _ _ _ (isTrue _ _ _) _ _; refine w_tval ?_)
  | (with_reducible show W _ _ _ _ (storeName _ _ _) _ _; first | refine w_storeL (by with_unfolding_all rfl) ?_ | refine w_storeC (by with_unfolding_all rfl) (by k_places) ?_)
  | (with_reducible show W _ _ _ _ (tests [_] _) _ _; refine w_tests1 ?_)
  | (with_reducible show W _ _ _ _ (tests [] _) _ _; refine w_tests0 ?_)
  | (with_reducible show W _ _ _ _ (eval (Expr.ListComp _ [Comprehension.mk _ _ _ _] _ _) _) _ _; refine w_listcomp ?_)
  | (with_reducible show W _ _ _ _ (truthy (.bool _)) _ _; refine w_truthyB ?_)
  | (with_reducible show thenK _ _ Flow.next _; refine thenK_next ?_)
  | (with_reducible show thenK _ _ Flow.brk _; refine thenK_brk ?_)
  | (with_reducible show thenK _ _ Flow.cont _; refine thenK_cont ?_)
  | (with_reducible show thenK _ _ (Flow.ret _) _; refine thenK_ret ?_)
  | (with_reducible show turnK _ _ _ Flow.next _; refine turnK_next ?_)
  | (with_reducible show turnK _ _ _ Flow.brk _; refine turnK_brk ?_)
  | (with_reducible show turnK _ _ _ Flow.cont _; refine turnK_cont ?_)
  | (with_reducible show turnK _ _ _ (Flow.ret _) _; refine turnK_ret ?_))

theorem law_p6 {b : Base} (GT : GlbT b) {N : Nat} (hN : 12 ≤ N) {A : Around} {F : Fs} {L : Addr} {l : Addr} {ns : List Int} {σ₀ τ : Sg} {rs : List Rec} {tk : List TkR} {r : Rec} {cc cn lt ld lto : Addr} {body : List Stmt} (hb : fLaw.1.body = .stmts body)
    (R : Rm A (2 * N + 20)) (hF : Frs A F L) (I : L6 b N l ns σ₀ rs tk r cc cn lt ld lto τ) : W b A F L (execs (body.drop 6) (fnEnv fLaw.1 L [("names", cn), ("child", cc)] 205)) τ QL := by
  have G := GT.toGlb
  have P7 := fun (τ : Sg) (I : L6 b N l ns σ₀ rs tk r cc cn lt ld lto τ) => law_p7 (F := F) (L := L) GT hN hb R hF I
  have hb' := FuncBody.stmts.inj (show FuncBody.stmts _ = FuncBody.stmts body from hb)
  subst hb'
  simp only [List.drop_succ_cons, List.drop_zero] at P7 ⊢
  have B := I.gb
  have H0 := I.H
  have e := I.H.e
  have hT := isTree_of e
  have hlN : (rs.map (·.a)).length ≤ N := by have := B.n12; omega
  have hgl : (gdown (Gof rs tk) N r.a).length ≤ 2 ^ 11 := Nat.le_trans (gdown_le _ N r.a) (B.gall hT N)
  have htt := told_tree B hlN H0.hr0
  have htl := told_len B hlN H0.hr0
  have hrl : rs.length ≤ 12 := by have := B.n12; simpa using this
  refine w_forRange R.hh (told (Gof rs tk) N r.a).length 0 1 (fun i τ' => L6 b N l ns σ₀ rs tk r cc cn lt ld lto τ') ?_
  have mO0 := I.mO
  have aO0 := I.aO
  repeat k_subL
  rotate_left
  · simp only [List.length_map]; omega
  simp only [List.length_map]
  refine w_range1 fun rg t1 t2 t3 hrg => ?_
  have hr1 := range_up 0 (told (Gof rs tk) N r.a).length (by omega) (by omega)
  refine ⟨rg, _, _, _, _, rfl, putA_same, hr1.1, by exact hr1.2, I.ext (Ext.new hrg) rfl rfl rfl rfl rfl, fun i t τ' Fa hi' I' => ?_, fun τ' I' => P7 τ' I'⟩
  rw [show (0 : Int) + i * 1 = ((i : Nat) : Int) by omega]
  obtain ⟨x, hx⟩ : ∃ x, (told (Gof rs tk) N r.a)[i]? = some x := ⟨(told (Gof rs tk) N r.a)[i]'hi', List.getElem?_eq_getElem hi'⟩
  obtain ⟨dx, lx, nmx, kx, hgx⟩ := node_of (htt x (List.mem_of_getElem? hx))
  have I1 : L6 b N l ns σ₀ rs tk r cc cn lt ld lto (τ'.setL "k" (.int ((i : Nat) : Int) t)) := I'.ext (Ext.setL Ext.rfl) (getL_ne (by decide)) (getL_ne (by decide)) (getL_ne (by decide)) (getL_ne (by decide)) (getL_ne (by decide))
  have hk1 : (τ'.setL "k" (.int ((i : Nat) : Int) t)).m "k" = some (.int ((i : Nat) : Int) t) := getL_same
  refine w_storeL (by with_unfolding_all rfl) ?_
  generalize (τ'.setL "k" (.int ((i : Nat) : Int) t)) = τ1 at I1 hk1 ⊢
  refine w_forE R.hh (fun j τ2 => L6 b N l ns σ₀ rs tk r cc cn lt ld lto τ2 ∧ τ2.m "k" = some (.int ((i : Nat) : Int) t)) ?_
  have mO1 := I1.mO
  repeat k_subL
  refine w_item (k := i) (v := .ref x) I1.aO (by rw [List.getElem?_map, hx]; rfl) (by simp only [List.length_map]; omega) ?_
  refine w_children G (I1.H.bld.gr _ _ hgx) ?_
  refine ⟨lx, kx.map .ref, rfl, ⟨I1, hk1⟩, fun j τ2 h => (h.1.H.bld.gr _ _ hgx).2, fun j v τ2 Fb ⟨I2, hk2⟩ hv => ?_, fun τ2 ⟨I2, hk2⟩ => ?_⟩
  · obtain ⟨c, rfl, hc⟩ := kidAt hv
    obtain ⟨u, hu⟩ := I2.hcc
    refine w_storeC (c := cc) (u := u) (by with_unfolding_all rfl) hu ?_
    have I3 := I2.cell (v := some (.ref c))
    have hk3 : (τ2.put cc (.cel (some (.ref c)))).m "k" = some (.int ((i : Nat) : Int) t) := hk2
    have hcc3 : (τ2.put cc (.cel (some (.ref c)))).at_ cc = some (.cel (some (.ref c))) := putA_same
    generalize (τ2.put cc (.cel (some (.ref c)))) = τ3 at I3 hk3 hcc3 ⊢
    obtain ⟨nd, hnd⟩ := B.all_ _ _ _ _ _ hgx c (List.mem_of_getElem? hc)
    have hn3 := I3.H.bld.gr _ _ hnd
    have hTn := isTree_of hnd
    have mO3 := I3.mO
    have mD3 := I3.mD
    have mT3 := I3.mT
    have aO3 := I3.aO
    have aD3 := I3.aD
    have aT3 := I3.aT
    repeat k_subL
    refine w_isTree (nd := nd) G hn3 ?_
    repeat k_subL
    refine ⟨fun hb => ?_, fun hb => ?_⟩
    · repeat k_subL
      rotate_left
      · simp only [List.length_map]; omega
      · simp only [List.length_map]; omega
      simp only [List.length_map]
      refine ⟨fun hlen => ?_, fun _ => ?_⟩
      · have hlen' : (gdown (Gof rs tk) N r.a).length = (rs.map (·.a)).length := by
          have : ((gdown (Gof rs tk) N r.a).length : Int) = rs.length := by simpa using hlen
          rw [List.length_map]; omega
        have hct : c ∈ kidsT (Gof rs tk) x := by
          unfold kidsT; rw [hgx]
          exact List.mem_filter.mpr ⟨List.mem_of_getElem? hc, by rw [hTn]; exact hb⟩
        have hord := B.order hlN H0.hr0 hlen' (k := i) hx hct
        repeat k_subL
        refine w_compF (isV c) (cl := [("child", cc)]) R.hh (by with_unfolding_all rfl) (by rfl) (by decide) (by decide) (by decide) (by decide) ?_
        repeat k_subL
        refine w_slice (w_part0 (w_part1 ?_))
        repeat k_subL
        intro sl hsl
        refine w_sliceAt (lo := none) (hi := some ((i : Nat) : Int)) (ys := ((told (Gof rs tk) N r.a).take i).map .ref) (putA_new hsl aO3) putA_same .none (.int _ _) (by rw [sizeLine_eq]; simp only [List.length_map]; omega) (by rw [slicePick_upto']; simp) fun l1 hl1 => ?_
        have eS : Ext τ3 ((τ3.put sl (.obj { cls := .type "slice", data := .fields #[.none, .int ((i : Nat) : Int) t, .none] })).put l1 (.lst (((told (Gof rs tk) N r.a).take i).map .ref))) := Ext.put (Ext.new hsl) hl1
        refine ⟨l1, _, rfl, putA_same, by rw [sizeLine_eq]; simp only [List.length_map, List.length_take]; omega, fun v hv τ' C F' hE hmv => ?_, fun τ' acc hE hacc hmm => ?_⟩
        · obtain ⟨y, hy, rfl⟩ := List.mem_map.mp hv
          obtain ⟨_, _, _, _, hgy⟩ := node_of (htt y (List.mem_of_mem_take hy))
          have hcc4 := (eS.trans hE).at_ _ _ hcc3
          obtain ⟨C3, d3, q3⟩ := Th.of ((I3.H.bld.gr _ _ hgy).ext (eS.trans hE))
          obtain ⟨C4, d4, q4⟩ := Th.of (hn3.ext (eS.trans hE))
          repeat k_subL
          refine w_is q3 q4 ?_
          repeat k_subL
          exact ⟨rfl, Ext.rfl, hmv⟩
        · rw [filter_isV]
          repeat k_subL
          refine w_newList (by rw [sizeLine_eq]; simp) fun le hle => ?_
          repeat k_subL
          refine w_eq0 (xs := (((told (Gof rs tk) N r.a).take i).filter (fun d => decide (d = c))).map .ref) (by have := R.r.units; omega) (putA_new hle putA_same) putA_same fun τ4 hE4 => ?_
          have hne : ((((told (Gof rs tk) N r.a).take i).filter (fun d => decide (d = c))).map Value.ref).isEmpty = false := by
            rw [Bool.eq_false_iff]
            intro hq
            rw [List.isEmpty_iff, List.map_eq_nil_iff, List.filter_eq_nil_iff] at hq
            exact hq c hord (by simp)
          rw [hne]
          have eF : Ext τ3 τ4 := (((eS.trans hE).put hacc).put hle).trans hE4.1
          have mF : τ4.m = τ3.m := by rw [hE4.2]; show τ'.m = _; rw [hmm]; rfl
          repeat k_subL
          refine ⟨fun hx => (nomatch hx), fun _ => ?_⟩
          repeat k_subL
          refine ⟨fun hx => (nomatch hx), fun _ => ?_⟩
          repeat k_subL
          exact ⟨I3.ext eF (by rw [mF]) (by rw [mF]) (by rw [mF]) (by rw [mF]) (by rw [mF]), by rw [mF]; exact hk3⟩
      · repeat k_subL
        refine ⟨fun hx => (nomatch hx), fun _ => ?_⟩
        repeat k_subL
        exact ⟨I3, hk3⟩
    · repeat k_subL
      refine ⟨fun hx => (nomatch hx), fun _ => ?_⟩
      repeat k_subL
      exact ⟨I3, hk3⟩
  · repeat k_subL
    exact I2
end PartC36

section PartC37
open PySem PySem.W PyProof.Rows PySem.Calls
set_option maxRecDepth 100000
set_option maxHeartbeats 400000
set_option linter.unusedVariables false

local macro_rules | `(tactic| k_clsL) => `(tactic| first
  | with_reducible assumption
  | (with_reducible show Sg.m (Sg.setL _ _ _) _ = some _; first | with_reducible exact getL_same | (apply getL_skip; with_unfolding_all decide; k_clsL))
  | (with_reducible show Sg.m (Sg.put _ _ _) _ = some _; apply putM; k_clsL)
  | (with_reducible show Sg.m (Sg.del _ _) _ = some _; apply delM; k_clsL)
  | (with_reducible show Sg.m (Sg.setM _ _) _ = some _; apply setMM; k_clsL)
  | (apply viaM; with_reducible assumption; k_clsL)
  | (apply viaE; with_reducible assumption; k_clsL))
local macro_rules | `(tactic| k_offL) => `(tactic| first
  | with_reducible assumption
  | with_reducible exact Ext.rfl
  | (with_reducible show Ext _ (Sg.setL _ _ _); refine Ext.setL ?_; k_offL)
  | (with_reducible show Ext _ (Sg.put _ _ _); refine Ext.put ?_ (by first | with_reducible assumption | with_reducible exact setA (by with_reducible assumption)); k_offL)
  | (with_reducible show Ext _ (Sg.setM _ _); refine Ext.setM ?_; k_offL)
  | (with_reducible refine Ext.tr (by with_reducible assumption) ?_; k_offL)
  | (with_reducible refine Ext.tr2 (by with_reducible assumption) ?_; k_offL))
local macro_rules | `(tactic| k_places) => `(tactic| first
  | with_reducible assumption
  | with_reducible exact putA_same
  | (with_reducible show Sg.at_ (Sg.setL _ _ _) _ = some _; apply setA; k_places)
  | (with_reducible show Sg.at_ (Sg.setM _ _) _ = some _; apply setMA; k_places)
  | (with_reducible show Sg.at_ (Sg.put _ _ _) _ = some _; apply putA_new; with_reducible assumption; k_places)
  | (apply ESt.at_; with_reducible assumption; k_places)
  | (apply Ext.at'; with_reducible assumption; k_places))
local macro_rules | `(tactic| k_subL) => `(tactic| first
  | (with_reducible show W _ _ _ _ (spliced (backTo _ (starEach [] _))) _ _; refine w_items0 ?_)
  | (with_reducible show W _ _ _ _ (spliced (backTo _ (starEach (_ :: _) _))) _ _; refine w_items ?_)
  | (with_reducible show W _ _ _ _ (eval (Expr.Name _ _) _) _ _; first | refine w_local (by with_unfolding_all rfl) (by k_clsL) ?_ | refine w_cell (by with_unfolding_all rfl) (by k_places) ?_ | (with_reducible show W _ _ _ _ (eval (Expr.Name ("Tree" : Str) _) _) _ _; refine w_glob (v := .ref 142) (by assumption) (by kernel_rfl) ?_) | (with_reducible show W _ _ _ _ (eval (Expr.Name ("Token" : Str) _) _) _ _; refine w_glob (v := .ref 45) (by assumption) (by kernel_rfl) ?_))
  | (with_reducible show W _ _ _ _ (eval (Expr.Call (Expr.Name ("isinstance" : Str) _) _ [] _) _) _ _; refine w_callB (n := "isinstance") (by assumption) boot_isi (by kernel_rfl) ?_)
  | (with_reducible show W _ _ _ _ (eval (Expr.Call (Expr.Name ("len" : Str) _) _ [] _) _) _ _; refine w_callB (n := "len") (by assumption) boot_len (by kernel_rfl) ?_)
  | (with_reducible show W _ _ _ _ (eval (Expr.Call (Expr.Name ("min" : Str) _) _ [] _) _) _ _; refine w_callB (n := "min") (by assumption) boot_min (by kernel_rfl) ?_)
  | (with_reducible show W _ _ _ _ (eval (Expr.Call (Expr.Name ("range" : Str) _) _ [] _) _) _ _; refine w_callT (n := "range") (by assumption) boot_range (by kernel_rfl) ?_)
  | (with_reducible show W _ _ _ _ (eval (Expr.Call (Expr.Name ("str" : Str) _) _ [] _) _) _ _; refine w_callT (n := "str") (by assumption) boot_str (by kernel_rfl) ?_)
  | (with_reducible show W _ _ _ _ (eval (Expr.Call (Expr.Name ("list" : Str) _) _ [] _) _) _ _; refine w_callT (n := "list") (by assumption) boot_list (by kernel_rfl) ?_)
  | (with_reducible show W _ _ _ _ (eval (Expr.Call (Expr.Name ("reversed" : Str) _) _ [] _) _) _ _; refine w_callT (n := "reversed") (by assumption) boot_rev (by kernel_rfl) ?_)
  | (with_reducible show W _ _ _ _ (eval (Expr.Call (Expr.Name ("filter" : Str) _) _ [] _) _) _ _; refine w_callT (n := "filter") (by assumption) boot_filter (by kernel_rfl) ?_)
  | (with_reducible show W _ _ _ _ (call (.builtin "len") [.ref _]) _ _; (refine w_len (by k_places) ?_ fun _ => ?_); rotate_left)
  | (with_reducible show W _ _ _ _ (binaryOp .Add (.int _ _) (.int _ _)) _ _; refine w_addI fun _ => ?_)
  | (with_reducible show W _ _ _ _ (binaryOp .Sub (.int _ _) (.int _ _)) _ _; refine w_subI fun _ => ?_)
  | (with_reducible show W _ _ _ _ (compareOp .Eq (.int _ _) (.int _ _)) _ _; refine w_eqI ?_)
  | (with_reducible show W _ _ _ _ (compareOp .NotEq (.int _ _) (.int _ _)) _ _; refine w_neI ?_)
  | (with_reducible show W _ _ _ _ (compareOp .Lt (.int _ _) (.int _ _)) _ _; refine w_ltI ?_)
  | (with_reducible show W _ _ _ _ (compareOp .Eq (.str _ _) (.str _ _)) _ _; refine w_eqS ?_)
  | (with_reducible show W _ _ _ _ (compareOp .NotEq (.bool _) (.bool _)) _ _; refine w_neB ?_)
  | (with_reducible show W _ _ _ _ (unaryOp .USub (.int _ _)) _ _; refine w_negI fun _ => ?_)
  | (with_reducible show W _ _ _ _ (unaryOp .Not _) _ _; refine w_notv ?_)
  | (with_reducible show W _ _ _ _ (eval (Expr.Attribute _ _ _) _) _ _; refine w_attr ?_)
  | (with_reducible show W _ _ _ _ (eval (Expr.List _ _) _) _ _; refine w_list ?_)
  | (with_reducible show W _ _ _ _ (eval (Expr.Tuple _ _ _) _) _ _; refine w_tuple ?_)
  | (with_reducible show W _ _ _ _ (eval (Expr.BinOp _ _ _ _) _) _ _; refine w_binop ?_)
  | (with_reducible show W _ _ _ _ (eval (Expr.Compare _ [_] [_] _) _) _ _; refine w_cmp ?_)
  | (with_reducible show W _ _ _ _ (eval (Expr.IfExp _ _ _ _) _) _ _; refine w_ifexp ?_)
  | (with_reducible show W _ _ _ _ (eval (Expr.Subscript _ _ _) _) _ _; refine w_sub ?_)
  | (with_reducible show W _ _ _ _ (eval (Expr.UnaryOp _ _ _) _) _ _; refine w_unop ?_)
  | (with_reducible show W _ _ _ _ (eval (Expr.Constant .none _ _) _) _ _; refine w_none ?_)
  | (with_reducible show W _ _ _ _ (eval (Expr.Constant (.bool _) _ _) _) _ _; refine w_tf ?_)
  | (with_reducible show W _ _ _ _ (eval (Expr.Constant (.int _) _ _) _) _ _; refine w_int ?_; intro _)
  | (with_reducible show W _ _ _ _ (eval (Expr.Constant (.str _) _ _) _) _ _; refine w_str ?_; intro _)
  | (with_reducible show W _ _ _ _ (execs [] _) _ _; refine w_nil ?_)
  | (with_reducible show W _ _ _ _ (execs (Stmt.Assign [Expr.Name _ _] (Expr.ListComp _ [Comprehension.mk _ _ _ _] _ _) _ :: _) _) _ _; refine w_cons (w_assignComp ?_))
  | (with_reducible show W _ _ _ _ (execs (Stmt.Assign [Expr.Name _ _] _ _ :: _) _) _ _; refine w_consA ?_)
  | (with_reducible show W _ _ _ _ (execs (Stmt.Assign [Expr.Attribute _ _ _] _ _ :: _) _) _ _; refine w_consAttr ?_)
  | (with_reducible show W _ _ _ _ (execs (Stmt.Assign [Expr.Subscript _ _ _] _ _ :: _) _) _ _; refine w_consSub ?_)
  | (with_reducible show W _ _ _ _ (execs (Stmt.If _ _ [] _ :: _) _) _ _; refine w_consIf ?_)
  | (with_reducible show W _ _ _ _ (execs (Stmt.If _ _ _ _ :: _) _) _ _; refine w_consElse ?_)
  | (with_reducible show W _ _ _ _ (execs (Stmt.Return (some _) _ :: _) _) _ _; refine w_consRet ?_)
  | (with_reducible show W _ _ _ _ (execs (Stmt.Break _ :: _) _) _ _; refine w_consBrk ?_)
  | (with_reducible show W _ _ _ _ (execs (Stmt.Continue _ :: _) _) _ _; refine w_consCont ?_)
  | (with_reducible show W _ _ _ _ (execs (Stmt.Expr (Expr.Call (Expr.Attribute _ _ _) [_] [] _) _ :: _) _) _ _; refine w_consApp ?_)
  | (with_reducible show W _ _ _ _ (execs (Stmt.Expr _ _ :: _) _) _ _; refine w_consE ?_)
  | (with_reducible show W _ _ _ _ (isTrue (Expr.UnaryOp .Not _ _) _ _) _ _; refine w_not ?_)
  | (with_reducible show W _ _ _ _ (isTrue (Expr.BoolOp _ _ _) _ _) _ _; refine w_bool ?_)
  | (with_reducible show W _ _ _ _ (allTrue .And [] _) _ _; refine w_andNil ?_)
  | (with_reducible show W _ _ _ _ (allTrue .Or [] _) _ _; refine w_orNil ?_)
  | (with_reducible show W _ _ _ _ (allTrue .And (_ :: _) _) _ _; refine w_and ?_)
  | (with_reducible show W _ _ _ _ (allTrue .Or (_ :: _) _) _ _; refine w_or ?_)
  | (with_reducible show W _ _ _ _ (isTrue (Expr.Compare _ [_] [_] _) _ _) _ _; refine w_tcmp ?_)
  | (with_reducible show W _ _ _ _ (isTrue _ _ _) _ _; refine w_tval ?_)
  | (with_reducible show W _ _ _ _ (storeName _ _ _) _ _; first | refine w_storeL (by with_unfolding_all rfl) ?_ | refine w_storeC (by with_unfolding_all rfl) (by k_places) ?_)
  | (with_reducible show W _ _ _ _ (tests [_] _) _ _; refine w_tests1 ?_)
  | (with_reducible show W _ _ _ _ (tests [] _) _ _; refine w_tests0 ?_)
  | (with_reducible show W _ _ _ _ (eval (Expr.ListComp _ [Comprehension.mk _ _ _ _] _ _) _) _ _; refine w_listcomp ?_)
  | (with_reducible show W _ _ _ _ (truthy (.bool _)) _ _; refine w_truthyB ?_)
  | (with_reducible show thenK _ _ Flow.next _; refine thenK_next ?_)
  | (with_reducible show thenK _ _ Flow.brk _; refine thenK_brk ?_)
  | (with_reducible show thenK _ _ Flow.cont _; refine thenK_cont ?_)
  | (with_reducible show thenK _ _ (Flow.ret _) _; refine thenK_ret ?_)
  | (with_reducible show turnK _ _ _ Flow.next _; refine turnK_next ?_)
  | (with_reducible show turnK _ _ _ Flow.brk _; refine turnK_brk ?_)
  | (with_reducible show turnK _ _ _ Flow.cont _; refine turnK_cont ?_)
  | (with_reducible show turnK _ _ _ (Flow.ret _) _; refine turnK_ret ?_))

theorem law_p0 {b : Base} (GT : GlbT b) {N : Nat} (hN : 12 ≤ N) {A : Around} {F : Fs} {L : Addr} {l : Addr} {ns : List Int} {τ : Sg} {cc cn : Addr} {body : List Stmt} (hb : fLaw.1.body = .stmts body)
    (R : Rm A (2 * N + 20)) (hF : Frs A F L) (hscr : ∃ vs : List Value, b.h.IsList l vs.toArray ∧ IntsAre vs ns) (hn : ns.length ≤ 63) (mS : τ.m "script" = some (.ref l)) (hcc : ∃ u, τ.at_ cc = some (.cel u)) (hcn : ∃ u, τ.at_ cn = some (.cel u))
    (h99 : τ.at_ 99 = some (.obj (tabObj #[]))) (h106 : τ.at_ 106 = some (.obj (tabObj #[]))) (h202 : τ.at_ 202 = some (.obj (tabObj #[]))) :
    W b A F L (execs body (fnEnv fLaw.1 L [("names", cn), ("child", cc)] 205)) τ QL := by
  have G := GT.toGlb
  have P6 := fun (rs : List Rec) (tk : List TkR) (r : Rec) (lt ld lto : Addr) (τ' : Sg) (I : L6 b N l ns τ rs tk r cc cn lt ld lto τ') => law_p6 (F := F) (L := L) GT hN hb R hF I
  have hb' := FuncBody.stmts.inj (show FuncBody.stmts _ = FuncBody.stmts body from hb)
  subst hb'
  simp only [List.drop_succ_cons, List.drop_zero] at P6
  obtain ⟨vs, hl, hi⟩ := hscr
  obtain ⟨u1, hcc⟩ := hcc
  obtain ⟨u2, hcn⟩ := hcn
  repeat k_subL
  refine w_call0 (f := 153) G (by kernel_rfl) ?_
  repeat k_subL
  refine WC.call (WC.mono (c_built G hl hi hn (R.le (m := N + 5) (by omega))) fun v τ1 ⟨lt, rs, tk, hv, hlt0, hsep, aT, X1, hE1⟩ => ?_)
  subst hv
  obtain ⟨r, H1⟩ := twin_root hl hi hn X1
  have B := H1.gb
  have e := H1.e
  have hT := isTree_of e
  have hD := H1.dp hN
  have hlN : (rs.map (·.a)).length ≤ N := by have := B.n12; omega
  have Fg := B.fing hlN
  have hga := B.gall hT N
  have hgl : (gdown (Gof rs tk) N r.a).length ≤ 2 ^ 11 := Nat.le_trans (gdown_le _ N r.a) hga
  have ne1 : lt ≠ r.l := Ne.symm (hsep r H1.mem)
  have hrl : rs.length ≤ 12 := by have := B.n12; simpa using this
  repeat k_subL
  refine w_item (k := 0) (v := .ref r.a) aT (by rw [List.getElem?_map, H1.hr0]; rfl) (by simp only [List.length_map]; omega) ?_
  repeat k_subL
  refine w_call0 (f := 160) G (by kernel_rfl) ?_
  repeat k_subL
  have eA : Ext τ1 ((τ1.setL "trees" (.ref lt)).setL "root" (.ref r.a)) := by k_offL
  refine WC.call (WC.mono (c_down G (Gof rs tk) N A F L _ r.a (H1.bld.gr.ext eA) hD hT (R.le (by omega)) (by omega)) fun v τ2 ⟨ld, hv, aD, hE2⟩ => ?_)
  subst hv
  have mS2 : (τ2.setL "down" (.ref ld)).m "script" = some (.ref l) := by k_clsL
  have mT2 : (τ2.setL "down" (.ref ld)).m "trees" = some (.ref lt) := by k_clsL
  have mR2 : (τ2.setL "down" (.ref ld)).m "root" = some (.ref r.a) := by k_clsL
  have mD2 : (τ2.setL "down" (.ref ld)).m "down" = some (.ref ld) := by k_clsL
  have e12 : Ext τ1 (τ2.setL "down" (.ref ld)) := by k_offL
  have e02 : Ext τ (τ2.setL "down" (.ref ld)) := hE1.1.trans e12
  have aD2 : (τ2.setL "down" (.ref ld)).at_ ld = some (.lst ((gdown (Gof rs tk) N r.a).map .ref)) := aD
  refine w_storeL (by with_unfolding_all rfl) ?_
  generalize (τ2.setL "down" (.ref ld)) = τ3 at mS2 mT2 mR2 mD2 e12 e02 aD2 ⊢
  have H3 := H1.extC e12.soft
  have aT3 := e12.at_ _ _ aT
  have hcc3 := e02.at_ _ _ hcc
  have hcn3 := e02.at_ _ _ hcn
  have t99 := e02.at_ _ _ h99
  have t106 := e02.at_ _ _ h106
  have t202 := e02.at_ _ _ h202
  clear hE1 hE2 eA e12 e02 aD aT hcc hcn h99 h106 h202 H1 X1 mS
  refine w_consIfP (fun τ' => ESt τ3 τ') ?_ ?_
  · repeat k_subL
    refine w_call0 (f := 174) G (by kernel_rfl) ?_
    repeat k_subL
    refine w_compGv (cl := []) (by with_unfolding_all rfl) (by rfl) (by decide) (by decide) (by decide) (by decide) ?_
    refine V.iterS (v_callM ?_)
    repeat k_subL
    refine w_meth (f := 90) G (H3.bld.gr _ _ e) (by kernel_rfl) (by kernel_rfl) ⟨by decide, by decide, by decide⟩ ?_
    refine v_cwK G (by kernel_rfl) ?_
    repeat k_subL
    refine VC.call (VC.mono (vc_top (d := 0) G Fg H3.bld.gr hT (by omega) R.dep) fun v Fi τ4 ⟨⟨K', hg, hself, hk⟩, hE4⟩ => ⟨hself _, K', _, hg A (rm_in1 (R.le (m := 1 + 1) (by omega))), hself _, hk, ?_, fun τ5 acc hE5 hacc hm5 => ?_⟩)
    · rw [sizeLine_eq, List.length_map]; omega
    have e5 : ESt τ3 (τ5.put acc (.lst ((gdown (Gof rs tk) N r.a).map .ref))) := ⟨(hE4.1.trans hE5).put hacc, by show τ5.m = _; rw [hm5, hE4.2]⟩
    have a5 : (τ5.put acc (.lst ((gdown (Gof rs tk) N r.a).map .ref))).at_ acc = some (.lst ((gdown (Gof rs tk) N r.a).map .ref)) := putA_same
    show W b A F L _ (τ5.put acc (.lst ((gdown (Gof rs tk) N r.a).map .ref))) _
    generalize τ5.put acc (.lst ((gdown (Gof rs tk) N r.a).map .ref)) = τ6 at e5 a5 ⊢
    have hG6 := H3.bld.gr.ext e5.1
    have hth : ∀ x ∈ gdown (Gof rs tk) N r.a, Th τ6 x := fun x hx => by
      obtain ⟨_, _, _, _, h1⟩ := node_of (gdown_tree N r.a x hx)
      exact Th.of (hG6 _ _ h1)
    repeat k_subL
    refine WC.call (WC.mono (c_alike G (R.le (m := N + 5) (by omega)) a5 (e5.1.at_ _ _ aD2) hth hth ⟨by omega, by omega⟩) fun v τ7 ⟨hv, hE7⟩ => ?_)
    rw [show decide (gdown (Gof rs tk) N r.a = gdown (Gof rs tk) N r.a) = true from decide_eq_true rfl] at hv
    subst hv
    repeat k_subL
    exact ⟨fun hx => (nomatch hx), fun _ => e5.trans hE7⟩
  rintro τ4 hE4
  have H4 := H3.extC hE4.1.soft
  have mS4 : τ4.m "script" = some (.ref l) := by k_clsL
  have mT4 : τ4.m "trees" = some (.ref lt) := by k_clsL
  have mR4 : τ4.m "root" = some (.ref r.a) := by k_clsL
  have mD4 : τ4.m "down" = some (.ref ld) := by k_clsL
  have aT4 := hE4.1.at_ _ _ aT3
  have aD4 := hE4.1.at_ _ _ aD2
  have hcc4 := hE4.1.at_ _ _ hcc3
  have hcn4 := hE4.1.at_ _ _ hcn3
  have s99 := hE4.1.at_ _ _ t99
  have s106 := hE4.1.at_ _ _ t106
  have s202 := hE4.1.at_ _ _ t202
  clear hE4 H3 mS2 mT2 mR2 mD2 aT3 aD2 hcc3 hcn3 t99 t106 t202
  have htt := told_tree B hlN H4.hr0
  have htl := told_len B hlN H4.hr0
  repeat k_subL
  refine w_compF (fun _ => true) (cl := []) R.hh (by with_unfolding_all rfl) (by rfl) (by decide) (by decide) (by decide) (by decide) ?_
  refine w_callM ?_
  repeat k_subL
  refine w_meth (f := 83) G (H4.bld.gr _ _ e) (by kernel_rfl) (by kernel_rfl) ⟨by decide, by decide, by decide⟩ ?_
  refine w_cwK G (by kernel_rfl) ?_
  repeat k_subL
  refine WC.call (WC.mono (c_iter G Fg (R.le (m := N + 5) (by omega)) H4.bld.gr hT (by omega)) fun v τ5 ⟨lq, hv, hlq0, aQ, hE5⟩ => ?_)
  subst hv
  have aQ' : τ5.at_ lq = some (.lst ((told (Gof rs tk) N r.a).map .ref)) := aQ
  refine ⟨lq, _, rfl, aQ', by rw [sizeLine_eq]; simp only [List.length_map]; omega, fun v hv τ' C F' hE hmv => w_tests0 ⟨rfl, Ext.rfl, hmv⟩, fun τ' acc hE hacc hmm => ?_⟩
  rw [filterT]
  intro C m
  have eS : Ext τ4 ((τ'.put acc (.lst ((told (Gof rs tk) N r.a).map .ref))).setL "told" (.ref acc)) := Ext.setL (Ext.put (hE5.1.trans hE) hacc)
  have mE : τ'.m = τ4.m := by rw [hmm, hE5.2]
  have I5 : L6 b N l ns τ rs tk r cc cn lt ld acc ((τ'.put acc (.lst ((told (Gof rs tk) N r.a).map .ref))).setL "told" (.ref acc)) :=
    ⟨H4.extC eS.soft, getL_skip (by decide) (by show τ'.m _ = _; rw [mE]; exact mS4), getL_skip (by decide) (by show τ'.m _ = _; rw [mE]; exact mT4), getL_skip (by decide) (by show τ'.m _ = _; rw [mE]; exact mR4),
      getL_skip (by decide) (by show τ'.m _ = _; rw [mE]; exact mD4), getL_same, ⟨_, eS.at_ _ _ hcc4⟩, ⟨_, eS.at_ _ _ hcn4⟩, eS.at_ _ _ aT4, eS.at_ _ _ aD4, setA putA_same, ne1, eS.at_ _ _ s99, eS.at_ _ _ s106, eS.at_ _ _ s202⟩
  refine w_assignN (w_storeL (by with_unfolding_all rfl) ?_)
  show W b A F L _ _ _
  generalize ((τ'.put acc (.lst ((told (Gof rs tk) N r.a).map .ref))).setL "told" (.ref acc)) = τ6 at I5 ⊢
  have mO6 := I5.mO
  have mT6 := I5.mT
  refine w_consIfP (fun τ' => ESt τ6 τ') ?_ ?_
  · repeat k_subL
    refine w_call0 (f := 179) G (by kernel_rfl) ?_
    repeat k_subL
    have hG6 := I5.H.bld.gr
    refine WC.call (WC.mono (c_once G (R.le (m := N + 5) (by omega)) I5.aO I5.aT (fun x hx => by obtain ⟨_, _, _, _, h1⟩ := node_of (htt x hx); exact Th.of (hG6 _ _ h1)) (fun x hx => by obtain ⟨_, _, _, _, h1⟩ := node_of (B.ex x hx); exact Th.of (hG6 _ _ h1)) ⟨by omega, by simp only [List.length_map]; omega⟩) fun v τ7 ⟨hv, hE7⟩ => ?_)
    replace hv : v = .bool true := hv.trans (congrArg Value.bool (decide_eq_true (B.once Fg H4.hr0)))
    subst hv
    repeat k_subL
    exact ⟨fun hx => (nomatch hx), fun _ => hE7⟩
  rintro τ7 hE7
  exact P6 rs tk r lt ld acc τ7 (I5.ext hE7.1 (by rw [hE7.2]) (by rw [hE7.2]) (by rw [hE7.2]) (by rw [hE7.2]) (by rw [hE7.2]))
end PartC37

section PartC38
open PySem PySem.W PyProof.Rows PySem.Calls
set_option maxRecDepth 100000
set_option maxHeartbeats 400000
set_option linter.unusedVariables false

theorem newEnv_raw {b : Base} {A : Around} {F : Fs} {σ : Sg} {s : Shared} {E : Value → Shared → Prop} {scope : Scope} {globals : Addr} {closure : List (Str × Addr)} {binds : List (Str × Value)} {qual : Str} {func : Option Addr} {code : Value} {around : Option Env} {builtins : Addr}
    {Q : Env → Shared → Prop} (hy : ∀ T, St b F s.heap.objs.size σ { s with heap := s.heap.push { cls := T, data := .dict #[] } }) (hk : scope.kind = .function)
    (h : ∀ L', CellK scope.names closure σ fun cs σ₁ => BindK (newEnv scope L' globals cs qual func code around builtins) binds σ₁ fun σ₂ =>
      ∀ s', St b F L' σ₂ s' → Q (newEnv scope L' globals cs qual func code around builtins) s') :
    wpAny (model P b.w) A (newFunctionEnv scope globals closure binds qual func code around builtins) Q E s := by
  have key : ∀ (T : Value) (fin : List (Str × Addr) → Sem Env) (_ : ∀ cs, fin cs = (do
        for (name, v) in binds do storeName (newEnv scope s.heap.objs.size globals cs qual func code around builtins) name v
        return newEnv scope s.heap.objs.size globals cs qual func code around builtins)),
      wpAny (model P b.w) A (alloc { cls := T, data := .dict #[] } >>= fun locals => (do
        let mut cells := closure
        for (name, kind) in scope.names do
          if kind == .cell then cells := (name, ← alloc { cls := .type "cell", data := .cell none }) :: cells
        fin cells)) Q E s := by
    intro T fin hfin
    refine wpAny_bind (wpAny_alloc ?_)
    have y := hy T
    refine wpAny_bind (cellK_any (s := s) _ (fun name kind cells => by cases hkc : kind == NameKind.cell <;> simp [hkc]) _ _ _ _ _ _ y (h s.heap.objs.size) fun cs σ₁ s₁ x₁ h₁ => ?_)
    rw [hfin]
    refine wpAny_bind (bindK_any _ (fun _ _ _ => rfl) (by cases around <;> exact hk) (by cases around <;> rfl) _ _ _ _ _ x₁ h₁ fun σ₂ s₂ x₂ h₂ => wpAny_pure (h₂ s₂ x₂))
  cases around with
  | none => exact key _ _ fun _ => rfl
  | some outer => exact key _ _ fun _ => rfl

/-- the names of a scope that are cells -/
def cellsOf : List (Str × NameKind) → List Str
  | [] => []
  | (n, kind) :: r => if kind == .cell then n :: cellsOf r else cellsOf r
def CellN : List Str → List (Str × Addr) → Sg → (List (Str × Addr) → Sg → Prop) → Prop
  | [], cs, σ, k => k cs σ
  | n :: r, cs, σ, k => ∀ c, σ.at_ c = none → CellN r ((n, c) :: cs) (σ.put c (.cel none)) k
theorem cellK_of : ∀ {names : List (Str × NameKind)} {ms : List Str} {cs : List (Str × Addr)} {σ : Sg} {k : List (Str × Addr) → Sg → Prop}, cellsOf names = ms → CellN ms cs σ k → CellK names cs σ k
  | [], ms, cs, σ, k, e, h => by subst e; exact h
  | (n, kind) :: r, ms, cs, σ, k, e, h => by
    subst e
    unfold CellK
    unfold cellsOf at h
    cases q : kind == NameKind.cell with
    | true => rw [q] at h; exact fun c hc => cellK_of rfl (h c hc)
    | false => rw [q] at h; exact cellK_of rfl h
abbrev tabs3 : List (Addr × Addr) := [(110, 106), (103, 99), (204, 202)]
def sg0 : Sg := { m := fun _ => none, at_ := fun a => if a = 99 ∨ a = 106 ∨ a = 202 then some (.obj (tabObj #[])) else none, gens := #[] }
theorem law_call {b : Base} (GT : GlbT b) {s : Shared} {l : Addr} {ns : List Int} {R : Result → Shared → Prop} (hkeep : ∀ x o, b.h.get? x = some o → s.heap.get? x = some o) (hos : s.os = b.os) (hg : s.gens = #[])
    (ht : ∀ P, P = 99 ∨ P = 106 ∨ P = 202 → s.heap.get? P = some (tabObj #[]) ∧ b.h.get? P = none) (hscr : ∃ vs : List Value, b.h.IsList l vs.toArray ∧ IntsAre vs ns) (hn : ns.length ≤ 63)
    (hR : ∀ s' σ' L, St b [] L σ' s' → Tabs σ' → R (.ok (.ret (.bool true))) s') : codeAny (model P b.w) callerA (.call (.ref 205) ⟨[.ref l], []⟩) R s := by
  have G := GT.toGlb
  have bnone : ∀ a, s.heap.get? a = none → b.h.get? a = none := fun a e => by
    cases q : b.h.get? a with
    | none => rfl
    | some o => rw [hkeep a o q] at e; cases e
  have hsz : ∀ a o, s.heap.get? a = some o → a ≠ s.heap.objs.size := fun a o e q => Nat.lt_irrefl _ (q ▸ Heap.lt_size e)
  have snone := bnone _ (Heap.get?_size s.heap)
  have h0 : ∀ T, St b [] s.heap.objs.size sg0 { s with heap := s.heap.push { cls := T, data := .dict #[] } } := fun T => by
    refine ⟨Heap.Ns.new s.heap T, fun p hp => (nomatch hp), List.nodup_nil, fun y o e => Heap.get?_push_of_some _ (hkeep y o e), fun a c e => ?_, ⟨snone, ?_, fun p hp => (nomatch hp)⟩, fun p hp => (nomatch hp), fun a c e => ?_, ⟨fun i g hi => ?_, fun p hp => (nomatch hp), List.nodup_nil⟩, hos⟩
    · simp only [sg0] at e
      split at e
      · rename_i q; cases e; exact Heap.get?_push_of_some _ (ht a q).1
      · cases e
    · simp only [sg0]
      rw [if_neg]
      intro q; exact hsz _ _ (ht _ q).1 rfl
    · simp only [sg0] at e
      split at e
      · rename_i q; exact (ht a q).2
      · cases e
    · have hi : s.gens[i]? = some g := hi
      rw [hg] at hi; simp at hi
  refine codeAny_call_function (fd := fLaw.1) (by decide) (hkeep _ _ (G.k _ _ (fLaw.2 _))) rfl rfl rfl rfl ((codeRec_of G.k (by kernel_rfl)).keeps hkeep) ?_
  have hbind : bindArgs fLaw.1 ⟨[Value.ref l], []⟩ = (pure [(("script" : Str), Value.ref l)] : Sem (List (Str × Value))) := rfl
  rw [hbind]
  refine wpAny_pure ?_
  refine newEnv_raw h0 (by with_unfolding_all rfl) fun L' => ?_
  refine cellK_of (ms := ["child", "names"]) (by kernel_rfl) ?_
  intro cc hcc cn hcn
  show ∀ s', St b [] L' _ s' → _
  intro s₂ x₂
  refine ⟨G.lim.keeps x₂.keep, codeAny_func ?_⟩
  have R0 : Rm (callerA.deeper (fnEnv fLaw.1 L' [("names", cn), ("child", cc)] 205)) (2 * 12 + 20) := ⟨⟨rfl, (by decide : callerA.depth + 1 + (2 * 12 + 20 + 5) < recursionLimit), (by decide : callerA.units + 3 + (8 * (2 * 12 + 20) + 200) < cLine)⟩⟩
  have hF0 : Frs (callerA.deeper (fnEnv fLaw.1 L' [("names", cn), ("child", cc)] 205)) [] L' := ⟨_, rfl, fun e he => by
    rcases List.mem_cons.mp he with rfl | he
    · exact ⟨(by with_unfolding_all decide : fLaw.1.scope.kind ≠ .module), L', rfl, .inl rfl⟩
    · cases he⟩
  have e1 : ∀ a, a = 99 ∨ a = 106 ∨ a = 202 → sg0.at_ a = some (.obj (tabObj #[])) := fun a h => by simp only [sg0]; rw [if_pos h]
  have n1 : ∀ a, a = 99 ∨ a = 106 ∨ a = 202 → a ≠ cc := fun a h q => by
    have := e1 a h; rw [q, hcc] at this; cases this
  have n2 : ∀ a, a = 99 ∨ a = 106 ∨ a = 202 → a ≠ cn := fun a h q => by
    have : (sg0.put cc (.cel none)).at_ a = _ := putA_ne (n1 a h) (e1 a h)
    rw [q, hcn] at this; cases this
  have at3 : ∀ a, a = 99 ∨ a = 106 ∨ a = 202 → (((sg0.put cc (.cel none)).put cn (.cel none)).setL "script" (.ref l)).at_ a = some (.obj (tabObj #[])) := fun a h => setA (putA_ne (n2 a h) (putA_ne (n1 a h) (e1 a h)))
  have W0 := law_p0 (N := 12) (F := []) (L := L') (cc := cc) (cn := cn) (τ := ((sg0.put cc (.cel none)).put cn (.cel none)).setL "script" (.ref l)) GT (Nat.le_refl _) rfl R0 hF0 hscr hn getL_same ⟨none, setA (putA_new hcn putA_same)⟩ ⟨none, setA putA_same⟩ (at3 _ (.inl rfl)) (at3 _ (.inr (.inl rfl))) (at3 _ (.inr (.inr rfl)))
  refine wpAny_mono (W0 s₂ _ x₂) (fun fl s' ⟨σ', y, hfl, hTb⟩ => ?_) fun _ _ e => e
  subst hfl
  exact hR s' σ' L' y hTb

/-- the join -/
theorem law_good {w : World} {s₁ : Shared} {cw : ClaimW} {cl : Str → Option Addr} {mean mean' : ExcName → Option Value} {args : List WData} {p : Program} {loose : List Str} {mg mb : Str → Option Value} {fa l : Addr} {vs : List Value} {ns : List Int}
    (KX : (Mine.hd.heap_39 w.params).In s₁.heap) (hT8 : ∀ P, P ∈ ([106, 99, 202] : List Addr) → s₁.heap.get? P = some (tabObj #[])) (T : Top p loose mean' mg mb s₁.heap) (hg : s₁.gens = #[]) (hL : s₁.heap.IsList l vs.toArray) (hI : IntsAre vs ns)
    (hn : ns.length ≤ 63) (hmg : mg "law" = some (.ref fa)) (hr : ∀ cls, cw.raises args cls = false) (hp : cw.post args (.bool true) args = true) :
    codeAny (model P w) callerA (.call (.ref fa) ⟨[.ref l], []⟩) (GoodWG cw cl mean args s₁) s₁ := by
  have hT : TabsAt tabs3 s₁.heap := fun q hq => by
    simp only [tabs3, List.mem_cons, List.not_mem_nil, or_false] at hq
    rcases hq with rfl | rfl | rfl
    · exact ⟨codeHd_of_K KX (by kernel_rfl), hT8 _ (by simp)⟩
    · exact ⟨codeHd_of_K KX (by kernel_rfl), hT8 _ (by simp)⟩
    · exact ⟨codeHd_of_K KX (by kernel_rfl), hT8 _ (by simp)⟩
  have hfa : fa = 205 := by
    have := mg_of KX T.g (n := "law") (v := .ref 205) (by kernel_rfl)
    rw [hmg] at this; injection this with this; injection this
  subst hfa
  have hK : (Mine.hd.heap_39 w.params).In (ghostOf s₁.heap tabs3) := ghost_K hT KX (by kernel_rfl)
  have TT := ghost_top hT T
  have GT : GlbT ⟨w, ghostOf s₁.heap tabs3, s₁.os⟩ :=
    { k := hK, lim := TT.nolimit
      glob := ⟨mg, TT.g, fun x r e => by
        cases r with
        | none => exact mg_none_of hK TT.g e
        | some v => exact mg_of hK TT.g e⟩
      bui := ⟨mb, TT.b, TT.builtins⟩
      tab1 := codeHd_of_K hK (by kernel_rfl)
      tab2 := codeHd_of_K hK (by kernel_rfl)
      tab3 := codeHd_of_K hK (by kernel_rfl)
      bm := ⟨mg, TT.g, TT.bmain⟩ }
  refine law_call GT (l := l) (ns := ns) (fun x o e => of_hideAll _ e) rfl hg (fun P hP => ⟨hT8 P (by rcases hP with rfl | rfl | rfl <;> simp), ?_⟩) ⟨vs, ghost_list hT hL, hI⟩ hn fun s' σ' L y hTb => ?_
  · exact hideAll_none _ (by rcases hP with rfl | rfl | rfl <;> simp [tabs3])
  have grown : ∀ a o, a ∈ tabs3.map (·.2) → s₁.heap.get? a = some o → isCodeTable s₁.heap a ∧ o = tabObj #[] ∧ ∃ ps, s'.heap.get? a = some (tabObj ps) := fun a o ha e => by
    obtain ⟨q, hq, rfl⟩ := List.mem_map.mp ha
    have e2 := (hT q hq).2
    rw [e] at e2
    refine ⟨((hT q hq).1.tab (hT q hq).2).isCodeTable, Option.some.inj e2, ?_⟩
    simp only [tabs3, List.mem_cons, List.not_mem_nil, or_false] at hq
    obtain ⟨⟨p1, h1⟩, ⟨p2, h2⟩, ⟨p3, h3⟩⟩ := hTb
    rcases hq with rfl | rfl | rfl
    · exact ⟨p2, y.cl _ _ h2⟩
    · exact ⟨p1, y.cl _ _ h1⟩
    · exact ⟨p3, y.cl _ _ h3⟩
  refine ⟨.inl ⟨_, _, [], rfl, hr, ReadsW.bool true, hp, fun _ => ⟨List.nodup_nil, fun _ hm => (nomatch hm)⟩⟩, ⟨fun a o e => ?_, fun a o e => ?_⟩, y.os, fun g hg' => ?_⟩
  · by_cases ha : a ∈ tabs3.map (·.2)
    · obtain ⟨ht, rfl, ps, hP⟩ := grown a o ha e
      exact .inr (.inl ⟨ht, rfl, #[], ps, rfl, by rw [Array.empty_append]; exact hP⟩)
    · exact .inl (y.keep a o (ghost_ne e ha))
  · by_cases ha : a ∈ tabs3.map (·.2)
    · obtain ⟨_, _, ps, hP⟩ := grown a o ha e
      exact ⟨_, hP⟩
    · exact ⟨o, y.keep a o (ghost_ne e ha)⟩
  · obtain ⟨i, hi, rfl⟩ := Array.mem_iff_getElem.mp hg'
    rcases y.gens.all i _ (Array.getElem?_eq_getElem hi) with h | h
    · exact h
    · cases h
end PartC38

end Mine
open PySem PySem.W PyProof.Rows
set_option maxRecDepth 100000 in
set_option maxHeartbeats 8000000 in
theorem PySem.Challenge.cw_fd0016_01_holds : PySem.Challenge.rw_fd0016_01.Holds := by
  refine Mine.hd (by
    k_fill
    intro w s₀ s₁ mg mb G Y fa o pm cd doc dV kV ho hd hcd hD hmg hg args vals as hpre hlay hrd hwl hlo
    have KX := km_in_of Y
    km_tabs Y
    refine Ground.open G ?_
    intro T B D TE TW
    try (refine guard_noD D (by decide +kernel) ?_; clear D)
    clear hd hD hcd
    wrow_args hpre hlay hrd hwl hlo
    all_goals (first | refine callC_kw (enter_call ?_) | refine enter_call ?_)
    exact Mine.law_good KX hT8 T hg (by assumption) (by assumption) (by omega) hmg (fun _ => rfl) (by wrow_post))
