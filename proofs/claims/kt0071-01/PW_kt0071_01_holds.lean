import PyProof.Rows.All
import Wide.All
import OpenK.AllK
import Wide.FinOn
import Lean
import PySem.Challenge.RW_kt0071_01
open PySem PySem.W PyProof.Rows
set_option Elab.async false
set_option maxRecDepth 100000
set_option linter.unusedVariables false
set_option compiler.extract_closed false

namespace Mine
section
@[reducible] def er : Value → Value
  | .int i _ => .int i 0
  | .float x _ => .float x 0
  | .str s _ => .str s 0
  | .bytes b _ => .bytes b 0
  | v => v
theorem er_int {v : Value} {i : Int} (h : er v = .int i 0) : ∃ t, v = .int i t := by
  cases v <;> simp [er] at h
  exact ⟨_, by rw [h]⟩
theorem er_str {v : Value} {x : Str} (h : er v = .str x 0) : ∃ t, v = .str x t := by
  cases v <;> simp [er] at h
  exact ⟨_, by rw [h]⟩
theorem er_ref {v : Value} {a : Addr} (h : er v = .ref a) : v = .ref a := by
  cases v <;> simp [er] at h
  exact congrArg Value.ref h
theorem er_none {v : Value} (h : er v = .none) : v = .none := by cases v <;> simp [er] at h; rfl
theorem er_bool {v : Value} {b : Bool} (h : er v = .bool b) : v = .bool b := by
  cases v <;> simp [er] at h
  exact congrArg Value.bool h
theorem er_type {v : Value} {n : String} (h : er v = .type n) : v = .type n := by
  cases v <;> simp [er] at h
  exact congrArg Value.type h
theorem er_builtin {v : Value} {n : String} (h : er v = .builtin n) : v = .builtin n := by
  cases v <;> simp [er] at h
  exact congrArg Value.builtin h
inductive AO where
  | list (vs : List Value)
  | tup (vs : List Value)
  | dstr (kvs : List (Str × Value)) (ep : Nat)
  | dint (kvs : List (Int × Value)) (ep : Nat)
  | sset (xs : List Str)
  | slots (C : Addr) (dx : Addr) (vs : List (Option Value))
  | cell (v : Option Value)
  | attrs (kvs : List (Str × Value))
  | liter (l : Addr) (i : Nat)
  | raw (o : Obj)
abbrev Map := Str → Option Value
abbrev Sto := Addr → Option AO
def Sto.upd (σ : Sto) (a : Addr) (x : AO) : Sto := fun b => if b = a then some x else σ b
theorem Sto.upd_same (σ : Sto) (a : Addr) (x : AO) : σ.upd a x a = some x := by simp [Sto.upd]
theorem Sto.upd_ne {σ : Sto} {a b : Addr} {x : AO} (h : b ≠ a) : σ.upd a x b = σ b := by simp [Sto.upd, h]
def Map.set (m : Map) (x : Str) (v : Value) : Map := fun y => if y = x then some v else m y
abbrev iterObj (l : Addr) (i : Nat) : Obj := { cls := .type "list_iterator", data := .fields #[.ref l, .int i 0] }
def EsAre (es : List DictEntry) (kvs : List (Str × Value)) : Prop := es.map (fun e => (er e.key, er e.val)) = kvs.map (fun p => (Value.str p.1 0, p.2))
section
variable (prog : Program) (w : World)
def IsO : AO → Obj → Prop
  | .list vs, o => ∃ its n, o = { cls := .type "list", data := .seq its n } ∧ its.toList.map er = vs
  | .tup vs, o => ∃ its n, o = { cls := .type "tuple", data := .seq its n } ∧ its.toList.map er = vs
  | .dstr kvs ep, o => ∃ xs : List (Str × Value), (∃ es, o.ExactDict ∧ o.data = .dict es ep ∧ KeysOf (strKind prog w) es ∧ Pairs (strKind prog w) es.toList xs ∧ (xs.map (·.1)).Nodup) ∧ xs.map (fun p => (p.1, er p.2)) = kvs
  | .dint kvs ep, o => ∃ xs : List (Int × Value), (∃ es, o.ExactDict ∧ o.data = .dict es ep ∧ KeysOf (intKind prog w) es ∧ Pairs (intKind prog w) es.toList xs ∧ (xs.map (·.1)).Nodup) ∧ xs.map (fun p => (p.1, er p.2)) = kvs
  | .sset xs, o => o.SetObjOf (strKind prog w) (fun k => decide (k ∈ xs)) xs.length
  | .slots C dx vs, o => ∃ sl, o = { cls := .ref C, dict := some dx, data := .plain, slots := sl } ∧ sl.toList.map (Option.map er) = vs
  | .cell v, o => ∃ v', o.data = .cell v' ∧ v'.map er = v
  | .attrs kvs, o => ∃ es n, o = dictOf es n ∧ EsAre es kvs
  | .liter l i, o => o = iterObj l i
  | .raw o', o => o = o'
end
def HAt (h : Heap) (σ : Sto) (a : Addr) (x : Value) : Prop := ∃ o vs, h.get? a = some o ∧ σ a = none ∧ o.data = .fields vs ∧ 6 ≤ vs.size ∧ vs[2]? = some x
theorem HAt.move {h h' : Heap} {σ σ' : Sto} {a : Addr} {x : Value} (y : HAt h σ a x) (k : ∀ o vs, h.get? a = some o → σ a = none → o.data = .fields vs → 6 ≤ vs.size → h'.get? a = some o ∧ σ' a = none) : HAt h' σ' a x :=
  let ⟨o, vs, g, n, d, z, c⟩ := y; let ⟨g', n'⟩ := k o vs g n d z; ⟨o, vs, g', n', d, z, c⟩
def lnk (o : Option Addr) : Value := o.elim .none .ref
def Small (o : Obj) : Prop := ∃ vs, o.data = .fields vs ∧ vs.size < 6
section
variable (prog : Program) (w : World) (h₀ : Heap) (A : Around)
def HOk (h : Heap) (σ : Sto) : Prop :=
  A.handled = none ∨ ∃ l : List Addr, l.Nodup ∧ (∃ a, l[0]? = some a ∧ A.handled = some (.ref a)) ∧ ∀ (i : Nat) (a : Addr), l[i]? = some a → HAt h σ a (lnk l[i + 1]?)
def FrOk (h : Heap) (σ : Sto) : Prop :=
  ∃ l, A.frames = some l ∧ ∀ env ∈ l, env.scope.kind ≠ .module ∧ ∃ L o es n, env.frame = some L ∧ h.get? L = some o ∧ o.data = .dict es n ∧ h₀.objs.size ≤ L ∧ σ L = none
structure Rep (h : Heap) (σ : Sto) : Prop where
  keep : ∀ b o, h₀.get? b = some o → h.get? b = some o
  obj : ∀ a x, σ a = some x → ∃ o, h.get? a = some o ∧ IsO prog w x o
  old : ∀ a, σ a ≠ none → h₀.objs.size ≤ a
  hand : HOk A h σ
  fr : FrOk h₀ A h σ
  big : h₀.objs.size ≤ h.objs.size
structure St (L : Addr) (h : Heap) (m : Map) (σ : Sto) : Prop extends Rep prog w h₀ A h σ where
  ns : ∃ mc, h.Ns L mc ∧ ∀ x, (mc x).map er = m x
  off : σ L = none
  above : h₀.objs.size ≤ L
end
def Kp (h' : Heap) (b : Addr) (o : Obj) : Prop := ∃ sl, h'.get? b = some { o with slots := sl } ∧ ((∀ es n, o.data ≠ .dict es n) → sl = o.slots)
theorem Kp.of {h' : Heap} {b : Addr} {o : Obj} (e : h'.get? b = some o) : Kp h' b o := ⟨o.slots, e, fun _ => rfl⟩
theorem Kp.exact {h' : Heap} {b : Addr} {o : Obj} (k : Kp h' b o) (c : ∀ es n, o.data ≠ .dict es n) : h'.get? b = some o := by
  obtain ⟨sl, e, q⟩ := k
  rw [q c] at e
  exact e
theorem Kp.same {h' : Heap} {b : Addr} {o : Obj} (k : Kp h' b o) : ∃ o', h'.get? b = some o' ∧ o'.data = o.data ∧ o'.cls = o.cls := let ⟨_, e, _⟩ := k; ⟨_, e, rfl, rfl⟩
theorem Kp.then {h' h'' : Heap} {b : Addr} {o : Obj} (k : Kp h' b o) (f : ∀ o', h'.get? b = some o' → h''.get? b = some o') : Kp h'' b o := let ⟨sl, e, q⟩ := k; ⟨sl, f _ e, q⟩
theorem Kp.ns {h h' : Heap} {L : Addr} {mc : Str → Option Value} (n : h.Ns L mc) (k : ∀ o, h.get? L = some o → Kp h' L o) : h'.Ns L mc := by
  obtain ⟨o, es, ep, ho, hd, r⟩ := n
  obtain ⟨o', e, hd', _⟩ := (k o ho).same
  exact ⟨o', es, ep, e, hd'.trans hd, r⟩
def OutC (σ : Sto) (h : Heap) (σ' : Sto) (h' : Heap) : Prop := ∀ b o, h.get? b = some o → σ b = none → Kp h' b o ∧ σ' b = none
def Out (L : Addr) (σ : Sto) (h : Heap) (σ' : Sto) (h' : Heap) : Prop := ∀ b o, h.get? b = some o → σ b = none → b ≠ L → Kp h' b o ∧ σ' b = none
theorem Out.refl (L : Addr) (σ : Sto) (h : Heap) : Out L σ h σ h := fun _ _ e n _ => ⟨.of e, n⟩
theorem Out.trans {L : Addr} {σ₁ σ₂ σ₃ : Sto} {a b c : Heap} (x : Out L σ₁ a σ₂ b) (y : Out L σ₂ b σ₃ c) : Out L σ₁ a σ₃ c := fun q o e n ne => by
  obtain ⟨⟨sl, e', q'⟩, n'⟩ := x q o e n ne
  obtain ⟨⟨sl2, e2, q2⟩, n2⟩ := y q _ e' n' ne
  exact ⟨⟨sl2, e2, fun c => (q2 c).trans (q' c)⟩, n2⟩
theorem OutC.refl (σ : Sto) (h : Heap) : OutC σ h σ h := fun _ _ e n => ⟨.of e, n⟩
theorem OutC.trans {σ₁ σ₂ σ₃ : Sto} {a b c : Heap} (x : OutC σ₁ a σ₂ b) (y : OutC σ₂ b σ₃ c) : OutC σ₁ a σ₃ c := fun q o e n => by
  obtain ⟨⟨sl, e', q'⟩, n'⟩ := x q o e n
  obtain ⟨⟨sl2, e2, q2⟩, n2⟩ := y q _ e' n'
  exact ⟨⟨sl2, e2, fun c => (q2 c).trans (q' c)⟩, n2⟩
theorem OutC.out {L : Addr} {σ σ' : Sto} {h h' : Heap} (x : OutC σ h σ' h') : Out L σ h σ' h' := fun b o e n _ => x b o e n
section
variable {prog : Program} {w : World} {h₀ : Heap} {A : Around} {L : Addr} {h h' : Heap} {m m' : Map} {σ σ' : Sto}
theorem nodict {o : Obj} {vs : Array Value} (h : o.data = .fields vs) : ∀ es n, o.data ≠ .dict es n := fun es n q => by rw [h] at q; cases q
theorem HOk.move (x : HOk A h σ) (k : ∀ a o vs, h.get? a = some o → σ a = none → o.data = .fields vs → 6 ≤ vs.size → h'.get? a = some o ∧ σ' a = none) : HOk A h' σ' := by
  rcases x with x | ⟨l, n, e, c⟩
  · exact .inl x
  · exact .inr ⟨l, n, e, fun i a q => (c i a q).move (k a)⟩
theorem HOk.out (x : HOk A h σ) (y : ∃ mc, h.Ns L mc) (o : Out L σ h σ' h') : HOk A h' σ' := by
  refine x.move fun a ob vs g n d z => ?_
  have ne : a ≠ L := fun q => by
    obtain ⟨mc, o', es, ep, g', d', _⟩ := y
    rw [← q, g] at g'
    cases g'
    rw [d] at d'
    cases d'
  obtain ⟨g', n'⟩ := o a ob g n ne
  exact ⟨g'.exact (nodict d), n'⟩
theorem HOk.outC (x : HOk A h σ) (o : OutC σ h σ' h') : HOk A h' σ' := by
  refine x.move fun a ob vs g n d z => ?_
  obtain ⟨g', n'⟩ := o a ob g n
  exact ⟨g'.exact (nodict d), n'⟩
theorem FrOk.outC (x : FrOk h₀ A h σ) (o : OutC σ h σ' h') : FrOk h₀ A h' σ' := by
  obtain ⟨l, hl, k⟩ := x
  refine ⟨l, hl, fun env he => ?_⟩
  obtain ⟨km, L, ob, es, n, hf, g, d, b, nn⟩ := k env he
  obtain ⟨g', n'⟩ := o L ob g nn
  obtain ⟨o', e', d', _⟩ := g'.same
  exact ⟨km, L, o', es, n, hf, e', d'.trans d, b, n'⟩
theorem FrOk.out (x : FrOk h₀ A h σ) (o : Out L σ h σ' h') (hn : ∃ mc, h'.Ns L mc) (hoff : σ' L = none) (ab : h₀.objs.size ≤ L) : FrOk h₀ A h' σ' := by
  obtain ⟨l, hl, k⟩ := x
  refine ⟨l, hl, fun env he => ?_⟩
  obtain ⟨km, L', ob, es, n, hf, g, d, b, nn⟩ := k env he
  by_cases q : L' = L
  · subst q
    obtain ⟨mc, o', es', ep', g', d', _⟩ := hn
    exact ⟨km, L', o', es', ep', hf, g', d', ab, hoff⟩
  · obtain ⟨g', n'⟩ := o L' ob g nn q
    obtain ⟨o', e', d', _⟩ := g'.same
    exact ⟨km, L', o', es, n, hf, e', d'.trans d, b, n'⟩
theorem St.lt (x : St prog w h₀ A L h m σ) : L < h.objs.size := let ⟨_, n, _⟩ := x.ns; n.lt
theorem Rep.young (x : Rep prog w h₀ A h σ) {a : Addr} {o : AO} (e : σ a = some o) : h₀.get? a = none := by
  cases q : h₀.get? a with
  | none => rfl
  | some ob => exact absurd (Heap.lt_size q) (Nat.not_lt.mpr (x.old a (by rw [e]; intro c; cases c)))
theorem Rep.lt (x : Rep prog w h₀ A h σ) {a : Addr} {o : AO} (e : σ a = some o) : a < h.objs.size := let ⟨_, q, _⟩ := x.obj a o e; Heap.lt_size q
theorem St.ne (x : St prog w h₀ A L h m σ) {a : Addr} {o : AO} (e : σ a = some o) : a ≠ L := by
  intro q
  have := x.off
  rw [← q, e] at this
  cases this
theorem Rep.outside (x : Rep prog w h₀ A h σ) {b : Addr} {o : Obj} (e : h₀.get? b = some o) : σ b = none := by
  cases q : σ b with
  | none => rfl
  | some ob => have := x.young q; rw [e] at this; cases this
theorem St.next (x : St prog w h₀ A L h m σ) (kp : ∀ b ob, h₀.get? b = some ob → h.get? b = some ob → h'.get? b = some ob) (o : Out L σ h σ' h') (hn : ∃ mc, h'.Ns L mc ∧ ∀ y, (mc y).map er = m' y) (hoff : σ' L = none)
    (obj : ∀ a y, σ' a = some y → ∃ ob, h'.get? a = some ob ∧ IsO prog w y ob) (old : ∀ a, σ' a ≠ none → h₀.objs.size ≤ a) : St prog w h₀ A L h' m' σ' :=
  { keep := fun b ob e => kp b ob e (x.keep b ob e)
    obj := obj
    old := old
    hand := x.hand.out (let ⟨mc, n, _⟩ := x.ns; ⟨mc, n⟩) o
    fr := x.fr.out o (let ⟨mc, n, _⟩ := hn; ⟨mc, n⟩) hoff x.above
    big := let ⟨_, n, _⟩ := hn; Nat.le_of_lt (Nat.lt_of_le_of_lt x.above n.lt)
    ns := hn
    off := hoff
    above := x.above }
theorem Rep.next (x : Rep prog w h₀ A h σ) (kp : ∀ b ob, h₀.get? b = some ob → h.get? b = some ob → h'.get? b = some ob) (o : OutC σ h σ' h') (big : h₀.objs.size ≤ h'.objs.size)
    (obj : ∀ a y, σ' a = some y → ∃ ob, h'.get? a = some ob ∧ IsO prog w y ob) (old : ∀ a, σ' a ≠ none → h₀.objs.size ≤ a) : Rep prog w h₀ A h' σ' :=
  { keep := fun b ob e => kp b ob e (x.keep b ob e)
    obj := obj
    old := old
    hand := x.hand.outC o
    fr := x.fr.outC o
    big := big }
theorem St.grown (x : St prog w h₀ A L h m σ) (k : ∀ b o, h.get? b = some o → h'.get? b = some o) : St prog w h₀ A L h' m σ ∧ Out L σ h σ h' :=
  have o : Out L σ h σ h' := fun b ob e n _ => ⟨.of (k b ob e), n⟩
  ⟨x.next (fun b ob _ e => k b ob e) o (let ⟨mc, a, b⟩ := x.ns; ⟨mc, a.keeps k, b⟩) x.off (fun a y e => let ⟨ob, g, i⟩ := x.obj a y e; ⟨ob, k _ _ g, i⟩) x.old, o⟩
theorem St.pushed (x : St prog w h₀ A L h m σ) (o : Obj) : St prog w h₀ A L (h.push o) m σ ∧ Out L σ h σ (h.push o) :=
  x.grown fun _ _ e => Heap.get?_push_of_some _ e
end
theorem lt3 : ∀ {a : Nat}, a < 3 → a = 0 ∨ a = 1 ∨ a = 2
  | 0, _ => .inl rfl
  | 1, _ => .inr (.inl rfl)
  | 2, _ => .inr (.inr rfl)
  | _ + 3, h => absurd h (Nat.not_lt.mpr (Nat.le_add_left _ _))
theorem stepLt {n i : Nat} (h : i < n) : n - (i + 1) < n - i := Nat.sub_lt_sub_left h (Nat.lt_succ_self i)
theorem stepLt2 {n i : Nat} (h : i < n) : n + 1 - (i + 1) < n + 1 - i := Nat.sub_lt_sub_left (Nat.lt_succ_of_lt h) (Nat.lt_succ_self i)
end
section
section
variable (prog : Program) (w : World) (h₀ : Heap) (A : Around) (L : Addr)
inductive PostW {α : Type} (σ : Sto) (s : Shared) (Q : α → Map → Sto → Prop) (v : α) (s' : Shared) : Prop
  | mk (m' : Map) (σ' : Sto) (h : Heap) (tk : Nat) (e : s' = { s with heap := h, toks := tk }) (st : St prog w h₀ A L h m' σ') (o : Out L σ s.heap σ' h) (q : Q v m' σ') : PostW σ s Q v s'
def WE {α : Type} (E : Value → Map → Sto → Prop) (t : Sem α) (Q : α → Map → Sto → Prop) (m : Map) (σ : Sto) : Prop :=
  ∀ s, St prog w h₀ A L s.heap m σ → wpAny (model prog w) A t (PostW prog w h₀ A L σ s Q) (PostW prog w h₀ A L σ s E) s
def WV (E : Value → Map → Sto → Prop) (t : Sem Value) (Q : Value → Map → Sto → Prop) (m : Map) (σ : Sto) : Prop :=
  WE prog w h₀ A L E t (fun v m' σ' => Q (er v) m' σ') m σ
end
def botE : Value → Map → Sto → Prop := fun _ _ _ => False
section
variable {prog : Program} {w : World} {h₀ : Heap} {A : Around} {L : Addr} {E : Value → Map → Sto → Prop} {α β : Type} {m : Map} {σ : Sto}
theorem PostW.mono {σ : Sto} {s : Shared} {Q Q' : α → Map → Sto → Prop} {v : α} {s' : Shared} (h : PostW prog w h₀ A L σ s Q v s') (k : ∀ m' σ', Q v m' σ' → Q' v m' σ') : PostW prog w h₀ A L σ s Q' v s' :=
  let ⟨m', σ', h', tk, e, st, o, q⟩ := h; ⟨m', σ', h', tk, e, st, o, k m' σ' q⟩
theorem PostW.conv {β : Type} {σ : Sto} {s : Shared} {Q : α → Map → Sto → Prop} {Q' : β → Map → Sto → Prop} {v : α} {v' : β} {s' : Shared} (h : PostW prog w h₀ A L σ s Q v s') (k : ∀ m' σ', Q v m' σ' → Q' v' m' σ') : PostW prog w h₀ A L σ s Q' v' s' :=
  let ⟨m', σ', h', tk, e, st, o, q⟩ := h; ⟨m', σ', h', tk, e, st, o, k m' σ' q⟩
theorem PostW.trans {σ σ₁ : Sto} {s : Shared} {h₁ : Heap} {t₁ : Nat} {Q : α → Map → Sto → Prop} {v : α} {s' : Shared} (o : Out L σ s.heap σ₁ h₁) (h : PostW prog w h₀ A L σ₁ { s with heap := h₁, toks := t₁ } Q v s') : PostW prog w h₀ A L σ s Q v s' :=
  let ⟨m', σ', h', tk, e, st, o', q⟩ := h; ⟨m', σ', h', tk, e, st, o.trans o', q⟩
theorem WE.bind {t : Sem α} {f : α → Sem β} {Q : β → Map → Sto → Prop} (h : WE prog w h₀ A L E t (fun a m₁ σ₁ => WE prog w h₀ A L E (f a) Q m₁ σ₁) m σ) : WE prog w h₀ A L E (t >>= f) Q m σ := by
  intro s st
  refine wpAny_bind (wpAny_mono (h s st) (fun a s' p => ?_) fun _ _ e => e)
  obtain ⟨m₁, σ₁, h₁, t₁, rfl, st₁, o₁, q⟩ := p
  exact wpAny_mono (q _ st₁) (fun _ _ p => p.trans o₁) fun _ _ p => p.trans o₁
theorem WE.pure {a : α} {Q : α → Map → Sto → Prop} (h : Q a m σ) : WE prog w h₀ A L E (Pure.pure a) Q m σ :=
  fun s st => wpAny_pure ⟨m, σ, s.heap, s.toks, rfl, st, Out.refl _ _ _, h⟩
theorem WE.mono {t : Sem α} {Q Q' : α → Map → Sto → Prop} {E' : Value → Map → Sto → Prop} (h : WE prog w h₀ A L E t Q m σ) (k : ∀ a m' σ', Q a m' σ' → Q' a m' σ') (ke : ∀ a m' σ', E a m' σ' → E' a m' σ') : WE prog w h₀ A L E' t Q' m σ :=
  fun s st => wpAny_mono (h s st) (fun a _ p => p.mono (k a)) fun a _ p => p.mono (ke a)
theorem WE.mono1 {t : Sem α} {Q Q' : α → Map → Sto → Prop} (h : WE prog w h₀ A L E t Q m σ) (k : ∀ a m' σ', Q a m' σ' → Q' a m' σ') : WE prog w h₀ A L E t Q' m σ := h.mono k fun _ _ _ e => e
theorem WE.holding {vs : List Value} {t : Sem α} {Q : α → Map → Sto → Prop} (h : WE prog w h₀ A L E t Q m σ) : WE prog w h₀ A L E (PySem.holding vs t) Q m σ :=
  fun s st => wpAny_holding (h s st)
theorem WE.operate {vs : List Value} {t : Sem Value} {Q : Value → Map → Sto → Prop} (h : WE prog w h₀ A L E t Q m σ) : WE prog w h₀ A L E (PySem.operate vs t) Q m σ :=
  fun s st => wpAny_operateT (h s st)
theorem WE.standAt {p : Pos} {Q : Unit → Map → Sto → Prop} (h : Q () m σ) : WE prog w h₀ A L E (PySem.standAt p) Q m σ :=
  fun s st => wpAny_standAt ⟨m, σ, s.heap, s.toks, rfl, st, Out.refl _ _ _, h⟩
theorem WE.still {t : Sem α} {Q : α → Map → Sto → Prop} (r : α) (h : Q r m σ) (k : ∀ (s : Shared) (Q' : α → Shared → Prop) (E' : Value → Shared → Prop), St prog w h₀ A L s.heap m σ → (∀ tk, Q' r { s with toks := tk }) → wpAny (model prog w) A t Q' E' s) : WE prog w h₀ A L E t Q m σ :=
  fun s st => k s _ _ st fun tk => ⟨m, σ, s.heap, tk, rfl, st, Out.refl _ _ _, h⟩
theorem WV.still {t : Sem Value} {Q : Value → Map → Sto → Prop} (r : Value) (h : Q r m σ) (k : ∀ (s : Shared) (Q' : Value → Shared → Prop) (E' : Value → Shared → Prop), St prog w h₀ A L s.heap m σ → (∀ v tk, er v = r → Q' v { s with toks := tk }) → wpAny (model prog w) A t Q' E' s) : WV prog w h₀ A L E t Q m σ :=
  fun s st => k s _ _ st fun v tk e => ⟨m, σ, s.heap, tk, rfl, st, Out.refl _ _ _, by show Q (er v) m σ; rw [e]; exact h⟩
section
variable {env : Env}
end
end
end
section
structure Cx where
  prog : Program
  w : World
  h₀ : Heap
  A : Around
  env : Env
  E : Value → Map → Sto → Prop
abbrev Cx.W (C : Cx) {α : Type} (t : Sem α) (Q : α → Map → Sto → Prop) (m : Map) (σ : Sto) : Prop := WE C.prog C.w C.h₀ C.A C.env.locals C.E t Q m σ
abbrev Cx.V (C : Cx) (t : Sem Value) (Q : Value → Map → Sto → Prop) (m : Map) (σ : Sto) : Prop := WV C.prog C.w C.h₀ C.A C.env.locals C.E t Q m σ
abbrev Cx.S (C : Cx) (h : Heap) (m : Map) (σ : Sto) : Prop := St C.prog C.w C.h₀ C.A C.env.locals h m σ
def GV (h₀ : Heap) (x : Str) (v : Value) : Prop :=
  ∀ (M : Model) (A : Around) (E : Value → Shared → Prop) (s : Shared) (Q : Value → Shared → Prop) (env : Env), env.globals = mainGlobals → env.builtins = builtinsNs →
    (∀ b o, h₀.get? b = some o → s.heap.get? b = some o) → Q v s → wpAny M A (loadGlobal env x) Q E s
theorem GV.glob {h₀ : Heap} {mg : Str → Option Value} {x : Str} {v : Value} (g : h₀.Ns mainGlobals mg) (e : mg x = some v) : GV h₀ x v :=
  fun _ _ _ _ _ env he _ k q => Calls.loadGlobal_global (by rw [he]; exact g.keeps k) e q
theorem GV.built {h₀ : Heap} {mg mb : Str → Option Value} {x : Str} {v : Value} (g : h₀.Ns mainGlobals mg) (n : mg x = none) (b : h₀.Ns builtinsNs mb) (e : mb x = some v) : GV h₀ x v :=
  fun _ _ _ _ _ env he hb k q => Calls.loadGlobal_builtin (by rw [he]; exact g.keeps k) n (by rw [hb]; exact b.keeps k) e q
def op1 (C : Cx) (f : Value → Sem Value) (a : Value) (Q : Value → Map → Sto → Prop) (m : Map) (σ : Sto) : Prop := ∀ a', er a' = a → C.V (f a') Q m σ
def op2 (C : Cx) (f : Value → Value → Sem Value) (a b : Value) (Q : Value → Map → Sto → Prop) (m : Map) (σ : Sto) : Prop := ∀ a' b', er a' = a → er b' = b → C.V (f a' b') Q m σ
def test1 (C : Cx) (a : Value) (Q : Bool → Map → Sto → Prop) (m : Map) (σ : Sto) : Prop := ∀ a', er a' = a → C.W (truthy a') Q m σ
section
variable {C : Cx} {m : Map} {σ : Sto} {Q : Value → Map → Sto → Prop}
theorem v_int {i k pos} (h : Q (.int i 0) m σ) : C.V (eval (.Constant (.int i) k pos) C.env) Q m σ := WV.still _ h fun _ _ _ _ q => wpAny_Constant_int (q _ _ rfl)
theorem v_str {x : Str} {k pos} (h : Q (.str x 0) m σ) : C.V (eval (.Constant (.str x) k pos) C.env) Q m σ := WV.still _ h fun _ _ _ _ q => wpAny_Constant_str (q _ _ rfl)
theorem v_none {k pos} (h : Q .none m σ) : C.V (eval (.Constant .none k pos) C.env) Q m σ := WV.still _ h fun s _ _ _ q => wpAny_Constant_none (q _ s.toks rfl)
theorem v_bool {b k pos} (h : Q (.bool b) m σ) : C.V (eval (.Constant (.bool b) k pos) C.env) Q m σ := WV.still _ h fun s _ _ _ q => wpAny_Constant_bool (q _ s.toks rfl)
theorem ld_local {x : Str} {v : Value} (hv : m x = some v) (h : Q v m σ) (hk : C.env.scope.kind = .function) (hl : C.env.kindOf x = some .local) :
    C.V (loadName C.env x) Q m σ := by
  refine WV.still v h fun s Q' E' st q => ?_
  obtain ⟨mc, hn, hm⟩ := st.ns
  have e := hm x
  rw [hv] at e
  obtain ⟨v', e1, e2⟩ := Option.map_eq_some_iff.mp e
  exact wpAny_loadName_local hk hl hn e1 (q v' s.toks e2)
theorem v_name {x : Str} {pos} (h : C.V (loadName C.env x) Q m σ) (hd : (x == ("__debug__" : Str)) = false := by decide) : C.V (eval (.Name x pos) C.env) Q m σ :=
  fun s st => wpAny_Name (h s st) hd
theorem v_local {x : Str} {pos} {v : Value} (hv : m x = some v) (h : Q v m σ) (hk : C.env.scope.kind = .function := by exact Eq.refl ScopeKind.function) (hl : C.env.kindOf x = some .local := by exact Eq.refl (some NameKind.local)) (hd : (x == ("__debug__" : Str)) = false := by decide) :
    C.V (eval (.Name x pos) C.env) Q m σ := v_name (ld_local hv h hk hl) hd
theorem cell_at {h : Heap} {c : Addr} {v : Option Value} (st : C.S h m σ) (hv : σ c = some (.cell v)) : ∃ v', h.IsCell c v' ∧ v'.map er = v := by
  obtain ⟨o, ho, v', hd, e⟩ := st.obj c _ hv
  exact ⟨v', ⟨o, ho, hd⟩, e⟩
theorem ld_cell {x : Str} {c : Addr} {v : Value} (hv : σ c = some (.cell (some v))) (h : Q v m σ) (hk : C.env.scope.kind = .function) (hl : C.env.kindOf x = some .cell)
    (hc : C.env.cells.lookup x = some c) : C.V (loadName C.env x) Q m σ := by
  refine WV.still v h fun s Q' E' st q => ?_
  obtain ⟨v', hi, e⟩ := cell_at st hv
  obtain ⟨u, rfl, e2⟩ := Option.map_eq_some_iff.mp e
  exact wpAny_loadName_cell hk hl hc hi (q u s.toks e2)
theorem v_cell {x : Str} {pos} {c : Addr} {v : Value} (hc : C.env.cells.lookup x = some c) (hv : σ c = some (.cell (some v))) (h : Q v m σ) (hk : C.env.scope.kind = .function := by exact Eq.refl ScopeKind.function) (hl : C.env.kindOf x = some .cell := by exact Eq.refl (some NameKind.cell))
    (hd : (x == ("__debug__" : Str)) = false := by decide) : C.V (eval (.Name x pos) C.env) Q m σ := v_name (ld_cell hv h hk hl hc) hd
theorem v_glob {x : Str} {pos} {v : Value} (g : GV C.h₀ x v) (h : Q (er v) m σ) (hk : C.env.scope.kind = .function := by exact Eq.refl ScopeKind.function) (hl : C.env.kindOf x = some .globalImplicit := by exact Eq.refl (some NameKind.globalImplicit))
    (hg : C.env.globals = mainGlobals := by exact Eq.refl mainGlobals) (hb : C.env.builtins = builtinsNs := by exact Eq.refl builtinsNs) (hd : (x == ("__debug__" : Str)) = false := by decide) : C.V (eval (.Name x pos) C.env) Q m σ :=
  WV.still _ h fun s _ _ st q => Calls.Name_function_global hk hl (g _ _ _ s _ _ hg hb st.keep (q v s.toks rfl)) hd
@[reducible] noncomputable def k_v_bin1 (C : Cx) (op) (a) (Q : Value → Map → Sto → Prop) := fun b (m₂ : Map) (σ₂ : Sto) => op2 C (binaryOp op) a b Q m₂ σ₂
@[reducible] noncomputable def k_v_bin2 (C : Cx) (r) (op) (Q : Value → Map → Sto → Prop) := fun a (m₁ : Map) (σ₁ : Sto) => C.V (eval r C.env) (k_v_bin1 C op a Q) m₁ σ₁
theorem v_bin {l op r pos} (h : C.V (eval l C.env) (k_v_bin2 C r op Q) m σ) : C.V (eval (.BinOp l op r pos) C.env) Q m σ := by
  show C.V _ Q m σ
  rw [eval_BinOp]
  exact WE.bind (h.mono1 fun a _ _ q => WE.bind (WE.holding (WE.mono1 q fun b _ _ q => WE.bind (WE.standAt (WE.operate (q a b rfl rfl))))))
@[reducible] noncomputable def k_v_cmp1 (C : Cx) (op) (a) (Q : Value → Map → Sto → Prop) := fun b (m₂ : Map) (σ₂ : Sto) => op2 C (compareOp op) a b Q m₂ σ₂
@[reducible] noncomputable def k_v_cmp2 (C : Cx) (r) (op) (Q : Value → Map → Sto → Prop) := fun a (m₁ : Map) (σ₁ : Sto) => C.V (eval r C.env) (k_v_cmp1 C op a Q) m₁ σ₁
theorem v_cmp {l op r pos} (h : C.V (eval l C.env) (k_v_cmp2 C r op Q) m σ) (hm : behindInMarks op r = false := by with_unfolding_all rfl) :
    C.V (eval (.Compare l [op] [r] pos) C.env) Q m σ := by
  rw [eval_Compare1, markedBehindIn_of_false hm]
  exact WE.bind (h.mono1 fun a _ _ q => WE.bind (WE.holding (WE.mono1 q fun b _ _ q => WE.bind (WE.standAt (WE.operate (q a b rfl rfl))))))
@[reducible] noncomputable def k_t_cmp1 (C : Cx) (Q : Bool → Map → Sto → Prop) := fun c (m₃ : Map) (σ₃ : Sto) => test1 C c Q m₃ σ₃
@[reducible] noncomputable def k_t_cmp2 (C : Cx) (op) (a) (Q : Bool → Map → Sto → Prop) := fun b (m₂ : Map) (σ₂ : Sto) => op2 C (compareOp op) a b (k_t_cmp1 C Q) m₂ σ₂
@[reducible] noncomputable def k_t_cmp3 (C : Cx) (r) (op) (Q : Bool → Map → Sto → Prop) := fun a (m₁ : Map) (σ₁ : Sto) => C.V (eval r C.env) (k_t_cmp2 C op a Q) m₁ σ₁
theorem t_cmp {l op r pos whole} {Q : Bool → Map → Sto → Prop} (h : C.V (eval l C.env) (k_t_cmp3 C r op Q) m σ)
    (hm : behindInMarks op r = false := by with_unfolding_all rfl) : C.W (isTrue (.Compare l [op] [r] pos) C.env whole) Q m σ := by
  rw [isTrue_Compare1, markedBehindIn_of_false hm]
  exact WE.bind (h.mono1 fun a _ _ q => WE.bind (WE.holding (WE.mono1 q fun b _ _ q => WE.bind (WE.standAt (WE.bind (WE.operate (WE.mono1 (q a b rfl rfl) fun c _ _ q => WE.holding (q c rfl))))))))
@[reducible] noncomputable def k_v_un1 (C : Cx) (op) (Q : Value → Map → Sto → Prop) := fun a (m₁ : Map) (σ₁ : Sto) => op1 C (unaryOp op) a Q m₁ σ₁
theorem v_un {op x pos} (h : C.V (eval x C.env) (k_v_un1 C op Q) m σ) : C.V (eval (.UnaryOp op x pos) C.env) Q m σ := by
  show C.W (do let v ← eval x C.env; standAt pos; holding [v] (unaryOp op v)) _ m σ
  exact WE.bind (h.mono1 fun a _ _ q => WE.bind (WE.standAt (WE.holding (q a rfl))))
@[reducible] noncomputable def k_t_not1 (Q : Bool → Map → Sto → Prop) := fun b (m₁ : Map) (σ₁ : Sto) => Q (!b) m₁ σ₁
theorem t_not {x pos whole} {Q : Bool → Map → Sto → Prop} (h : C.W (isTrue x C.env (eval x C.env)) (k_t_not1 Q) m σ) : C.W (isTrue (.UnaryOp .Not x pos) C.env whole) Q m σ :=
  fun s st => wpAny_isTrue_Not (wpAny_mono (h s st) (fun b _ p => p.conv fun _ _ q => q) fun _ _ p => p)
@[reducible] noncomputable def k_t_val1 (C : Cx) (Q : Bool → Map → Sto → Prop) := fun v (m₁ : Map) (σ₁ : Sto) => test1 C v Q m₁ σ₁
theorem t_val {e : Expr} {whole : Sem Value} {Q : Bool → Map → Sto → Prop} (h : C.V whole (k_t_val1 C Q) m σ)
    (he : isTrue e C.env whole = (do let v ← whole; PySem.standAt e.pos; PySem.holding [v] (truthy v)) := by rfl) : C.W (isTrue e C.env whole) Q m σ := by
  rw [he]
  exact WE.bind (h.mono1 fun v _ _ q => WE.bind (WE.standAt (WE.holding (q v rfl))))
theorem t_boolop {op values pos whole} {Q : Bool → Map → Sto → Prop} (h : C.W (allTrue op values C.env) Q m σ) : C.W (isTrue (.BoolOp op values pos) C.env whole) Q m σ := fun s st => wpAny_isTrue_BoolOp (h s st)
theorem t_and_nil {Q : Bool → Map → Sto → Prop} (h : Q true m σ) : C.W (allTrue .And [] C.env) Q m σ := WE.pure (a := true) h
@[reducible] noncomputable def k_t_and1 (C : Cx) (rest) (Q : Bool → Map → Sto → Prop) := fun (b : Bool) (m₁ : Map) (σ₁ : Sto) => if b then C.W (allTrue .And rest C.env) Q m₁ σ₁ else Q false m₁ σ₁
theorem t_and {x rest} {Q : Bool → Map → Sto → Prop} (h : C.W (isTrue x C.env (eval x C.env)) (k_t_and1 C rest Q) m σ) : C.W (allTrue .And (x :: rest) C.env) Q m σ := by
  have e : allTrue .And (x :: rest) C.env = (do match BoolOp.And, ← isTrue x C.env (eval x C.env) with | .And, false => pure false | .Or, true => pure true | _, _ => allTrue .And rest C.env) := rfl
  rw [e]
  refine WE.bind (h.mono1 fun b _ _ q => ?_)
  cases b
  · exact WE.pure q
  · exact q
theorem t_or_nil {Q : Bool → Map → Sto → Prop} (h : Q false m σ) : C.W (allTrue .Or [] C.env) Q m σ := WE.pure (a := false) h
@[reducible] noncomputable def k_t_or1 (Q : Bool → Map → Sto → Prop) (C : Cx) (rest) := fun (b : Bool) (m₁ : Map) (σ₁ : Sto) => if b then Q true m₁ σ₁ else C.W (allTrue .Or rest C.env) Q m₁ σ₁
theorem t_or {x rest} {Q : Bool → Map → Sto → Prop} (h : C.W (isTrue x C.env (eval x C.env)) (k_t_or1 Q C rest) m σ) : C.W (allTrue .Or (x :: rest) C.env) Q m σ := by
  have e : allTrue .Or (x :: rest) C.env = (do match BoolOp.Or, ← isTrue x C.env (eval x C.env) with | .And, false => pure false | .Or, true => pure true | _, _ => allTrue .Or rest C.env) := rfl
  rw [e]
  refine WE.bind (h.mono1 fun b _ _ q => ?_)
  cases b
  · exact q
  · exact WE.pure q
theorem test_bool {b : Bool} {Q : Bool → Map → Sto → Prop} (h : Q b m σ) : test1 C (.bool b) Q m σ := fun a' e => by
  rw [er_bool e]
  exact WE.still b h fun s _ _ _ q => wpAny_truthy_bool (q s.toks)
theorem test_none {Q : Bool → Map → Sto → Prop} (h : Q false m σ) : test1 C .none Q m σ := fun a' e => by
  rw [er_none e]
  exact WE.still false h fun s _ _ _ q => truthy_none (q s.toks)
theorem v_is_none {v : Value} (h : Q (.bool (v == .none)) m σ) : op2 C (compareOp .Is) v .none Q m σ := fun a' b' ea eb => by
  rw [er_none eb]
  have e : (a' == Value.none) = (v == Value.none) := by rw [← ea]; cases a' <;> rfl
  refine WV.still _ h fun s _ _ _ q => is_none (q _ s.toks ?_)
  rw [e]
theorem v_isNot_none {v : Value} (h : Q (.bool (!(v == .none))) m σ) : op2 C (compareOp .IsNot) v .none Q m σ := fun a' b' ea eb => by
  rw [er_none eb]
  have e : (a' == Value.none) = (v == Value.none) := by rw [← ea]; cases a' <;> rfl
  refine WV.still _ h fun s _ _ _ q => isNot_none (q _ s.toks ?_)
  rw [e]
@[reducible] noncomputable def k_v_named1 (C : Cx) (x) (Q : Value → Map → Sto → Prop) := fun v (m₁ : Map) (σ₁ : Sto) => ∀ v', er v' = v → C.W (storeName C.env x v') (fun _ => Q v) m₁ σ₁
theorem v_named {x p value pos} (h : C.V (eval value C.env) (k_v_named1 C x Q) m σ) : C.V (eval (.NamedExpr (.Name x p) value pos) C.env) Q m σ := by
  show C.W (do let v ← eval value C.env; holding [v] (assign (.Name x p) C.env v); pure v) _ m σ
  refine WE.bind (h.mono1 fun v _ _ q => WE.bind (WE.holding ?_))
  intro s st
  exact wpAny_assign_Name (wpAny_mono (q v rfl s st) (fun _ _ p => p.mono fun _ _ q => WE.pure q) fun _ _ e => e)
end
end
section
section
variable {prog : Program} {w : World} {h₀ : Heap} {A : Around} {L : Addr} {h h' : Heap} {m m' : Map} {σ σ' : Sto}
theorem Out.ofSame {a : Addr} (hs : Heap.SameBut a h h') (ha : a = L ∨ σ a ≠ none) : Out L σ h σ h' := fun b o e n ne => by
  have : b ≠ a := by
    rintro rfl
    rcases ha with q | q
    · exact ne q
    · exact q n
  exact ⟨.of ((hs.2 b this).trans e), n⟩
theorem Out.ofSameUpd {a : Addr} {x : AO} (hs : Heap.SameBut a h h') (ha : σ a ≠ none) : Out L σ h (σ.upd a x) h' := fun b o e n ne => by
  have : b ≠ a := by
    rintro rfl
    exact ha n
  exact ⟨.of ((hs.2 b this).trans e), by rw [Sto.upd_ne this]; exact n⟩
theorem ns_keeps {mc : Str → Option Value} (hn : h.Ns L mc) (k : ∀ o, h.get? L = some o → h'.get? L = some o) : h'.Ns L mc :=
  let ⟨o, es, ep, ho, r⟩ := hn; ⟨o, es, ep, k o ho, r⟩
theorem St.stored (x : St prog w h₀ A L h m σ) {m' : Map} (hs : Heap.SameBut L h h') (hn : ∃ mc, h'.Ns L mc ∧ ∀ y, (mc y).map er = m' y) : St prog w h₀ A L h' m' σ ∧ Out L σ h σ h' :=
  have o : Out L σ h σ h' := Out.ofSame hs (.inl rfl)
  ⟨x.next (fun b ob e0 e => (hs.2 b (fun q => absurd (Heap.lt_size e0) (by rw [q]; exact Nat.not_lt.mpr x.above))).trans e) o hn x.off (fun a y e => let ⟨ob, g, i⟩ := x.obj a y e; ⟨ob, (hs.2 a (x.ne e)).trans g, i⟩) x.old, o⟩
theorem St.turned (x : St prog w h₀ A L h m σ) {a : Addr} {y z : AO} {o : Obj} (e : σ a = some y) (hs : Heap.SameBut a h h') (g : h'.get? a = some o) (i : IsO prog w z o) : St prog w h₀ A L h' m (σ.upd a z) ∧ Out L σ h (σ.upd a z) h' := by
  have o' : Out L σ h (σ.upd a z) h' := Out.ofSameUpd hs (by rw [e]; intro c; cases c)
  have hL : L ≠ a := fun q => x.ne e q.symm
  have kp : ∀ b ob, h₀.get? b = some ob → h.get? b = some ob → h'.get? b = some ob := fun b ob e0 e1 => (hs.2 b (fun q => absurd (Heap.lt_size e0) (Nat.not_lt.mpr (x.old b (by rw [q, e]; intro c; cases c))))).trans e1
  refine ⟨x.next kp o' (let ⟨mc, p, q⟩ := x.ns; ⟨mc, ns_keeps p fun o ho => (hs.2 L hL).trans ho, q⟩) ?_ (fun b u eb => ?_) fun b hb => ?_, o'⟩
  · rw [Sto.upd_ne hL]; exact x.off
  · by_cases q : b = a
    · subst q
      rw [Sto.upd_same] at eb
      cases eb
      exact ⟨o, g, i⟩
    · rw [Sto.upd_ne q] at eb
      obtain ⟨ob, g', i'⟩ := x.obj b u eb
      exact ⟨ob, (hs.2 b q).trans g', i'⟩
  · by_cases q : b = a
    · subst q
      exact x.old b (by rw [e]; intro c; cases c)
    · rw [Sto.upd_ne q] at hb
      exact x.old b hb
theorem St.made (x : St prog w h₀ A L h m σ) {a : Addr} {z : AO} {o : Obj} (k : ∀ b o, h.get? b = some o → h'.get? b = some o) (hf : h.objs.size ≤ a) (g : h'.get? a = some o) (i : IsO prog w z o) : St prog w h₀ A L h' m (σ.upd a z) ∧ Out L σ h (σ.upd a z) h' := by
  have hn : ∀ b o, h.get? b = some o → b ≠ a := fun b ob eb q => absurd (Heap.lt_size eb) (by rw [q]; exact Nat.not_lt.mpr hf)
  have o' : Out L σ h (σ.upd a z) h' := fun b ob eb n ne => ⟨.of (k b ob eb), by rw [Sto.upd_ne (hn b ob eb)]; exact n⟩
  have hL : L ≠ a := fun q => absurd x.lt (by rw [q]; exact Nat.not_lt.mpr hf)
  refine ⟨x.next (fun b ob _ e => k b ob e) o' (let ⟨mc, p, q⟩ := x.ns; ⟨mc, p.keeps k, q⟩) ?_ (fun b u eb => ?_) fun b hb => ?_, o'⟩
  · rw [Sto.upd_ne hL]; exact x.off
  · by_cases q : b = a
    · subst q
      rw [Sto.upd_same] at eb
      cases eb
      exact ⟨o, g, i⟩
    · rw [Sto.upd_ne q] at eb
      obtain ⟨ob, g', i'⟩ := x.obj b u eb
      exact ⟨ob, k _ _ g', i'⟩
  · by_cases q : b = a
    · subst q
      exact Nat.le_trans x.big hf
    · rw [Sto.upd_ne q] at hb
      exact x.old b hb
theorem St.fresh (x : St prog w h₀ A L h m σ) {a : Addr} (hf : h.objs.size ≤ a) : σ a = none := by
  cases e : σ a with
  | none => rfl
  | some y => exact absurd (x.toRep.lt e) (Nat.not_lt.mpr hf)
end
section
variable {C : Cx} {m : Map} {σ : Sto}
theorem fin {α : Type} {s : Shared} {Q : α → Map → Sto → Prop} {v : α} {h : Heap} {tk : Nat} {m' : Map} {σ' : Sto} (p : C.S h m' σ' ∧ Out C.env.locals σ s.heap σ' h) (q : Q v m' σ') :
    PostW C.prog C.w C.h₀ C.A C.env.locals σ s Q v { s with heap := h, toks := tk } := ⟨m', σ', h, tk, rfl, p.1, p.2, q⟩
theorem st_local {x : Str} {v' : Value} {Q : Unit → Map → Sto → Prop} (h : Q () (Map.set m x (er v')) σ) (hl : C.env.kindOf x = some .local) (hk : C.env.scope.kind = .function) :
    C.W (storeName C.env x v') Q m σ := by
  intro s st
  obtain ⟨mc, hn, hm⟩ := st.ns
  refine wpAny_storeName_local hl hn (fun h' hn' hs' => fin (st.stored hs' ⟨_, hn', fun y => ?_⟩) h) (by rw [hk]; rfl)
  show Option.map er (if y = x then some v' else mc y) = Map.set m x (er v') y
  unfold Map.set
  split
  · rfl
  · exact hm y
theorem st_cell {x : Str} {c : Addr} {v₀ : Option Value} {v' : Value} {Q : Unit → Map → Sto → Prop} (hv : σ c = some (.cell v₀)) (h : Q () m (σ.upd c (.cell (some (er v'))))) (hl : C.env.kindOf x = some .cell) (hk : C.env.scope.kind = .function)
    (hc : C.env.cells.lookup x = some c) : C.W (storeName C.env x v') Q m σ := by
  intro s st
  obtain ⟨u, hi, _⟩ := cell_at st hv
  refine wpAny_storeName_cell hk hl hc hi fun h' hi' hs' => fin ?_ h
  obtain ⟨o, ho, hd⟩ := hi'
  exact st.turned hv hs' ho ⟨some v', hd, rfl⟩
theorem WE.bindName {x : Str} {v : Value} {Q : Unit → Map → Sto → Prop} (h : C.W (storeName C.env x v) Q m σ) : C.W (PySem.bindName C.env x v) Q m σ := fun s st => wpAny_bindName (h s st)
def put1 (C : Cx) (x : Str) (v : Value) (Q : Map → Sto → Prop) (m : Map) (σ : Sto) : Prop := ∀ v', er v' = v → C.W (storeName C.env x v') (fun _ => Q) m σ
theorem put_local {x : Str} {v : Value} {Q : Map → Sto → Prop} (h : Q (Map.set m x v) σ) (hl : C.env.kindOf x = some .local := by exact Eq.refl (some NameKind.local)) (hk : C.env.scope.kind = .function := by exact Eq.refl ScopeKind.function) : put1 C x v Q m σ :=
  fun v' e => st_local (by rw [e]; exact h) hl hk
theorem put_cell {x : Str} {c : Addr} {v₀ : Option Value} {v : Value} {Q : Map → Sto → Prop} (hc : C.env.cells.lookup x = some c) (hv : σ c = some (.cell v₀)) (h : Q m (σ.upd c (.cell (some v)))) (hl : C.env.kindOf x = some .cell := by exact Eq.refl (some NameKind.cell)) (hk : C.env.scope.kind = .function := by exact Eq.refl ScopeKind.function) :
    put1 C x v Q m σ := fun v' e => st_cell hv (by rw [e]; exact h) hl hk hc
variable {Q : Flow → Map → Sto → Prop}
theorem s_nil (h : Q .next m σ) : C.W (execs [] C.env) Q m σ := WE.pure (a := Flow.next) h
@[reducible] noncomputable def k_s_cons1 (C : Cx) (rest : List Stmt) (Q : Flow → Map → Sto → Prop) := fun (f : Flow) (m₁ : Map) (σ₁ : Sto) => match f with | .next => C.W (execs rest C.env) Q m₁ σ₁ | f => Q f m₁ σ₁
theorem s_cons {st : Stmt} {rest : List Stmt} (h : C.W (exec st C.env) (k_s_cons1 C rest Q) m σ) : C.W (execs (st :: rest) C.env) Q m σ := by
  rw [execs_cons]
  refine WE.bind (h.mono1 fun f _ _ q => ?_)
  cases f <;> first | exact q | exact WE.pure q
@[reducible] noncomputable def k_s_assign1 (C : Cx) (x) (Q : Flow → Map → Sto → Prop) := fun v (m₁ : Map) (σ₁ : Sto) => put1 C x v (Q .next) m₁ σ₁
theorem s_assign {x p value pos} (h : C.V (eval value C.env) (k_s_assign1 C x Q) m σ) (hs : swapsWith value (some (.Name x p)) pos.line C.env = pure false := by rfl) :
    C.W (exec (.Assign [.Name x p] value pos) C.env) Q m σ := by
  rw [exec_Assign_Name _ _ _ _ _ hs]
  exact WE.bind (WE.standAt (WE.bind (h.mono1 fun v _ _ q => WE.bind (WE.standAt (WE.bind (WE.bindName ((q v rfl).mono1 fun _ _ _ q => WE.pure q)))))))
@[reducible] noncomputable def k_s_aug1 (C : Cx) (x) (Q : Flow → Map → Sto → Prop) := fun v (m₃ : Map) (σ₃ : Sto) => put1 C x v (Q .next) m₃ σ₃
@[reducible] noncomputable def k_s_aug2 (C : Cx) (op) (a) (x) (Q : Flow → Map → Sto → Prop) := fun b (m₂ : Map) (σ₂ : Sto) => op2 C (inplaceOp op) a b (k_s_aug1 C x Q) m₂ σ₂
@[reducible] noncomputable def k_s_aug3 (C : Cx) (value) (op) (x) (Q : Flow → Map → Sto → Prop) := fun a (m₁ : Map) (σ₁ : Sto) => C.V (eval value C.env) (k_s_aug2 C op a x Q) m₁ σ₁
theorem s_aug {x p op value pos} (h : C.V (loadName C.env x) (k_s_aug3 C value op x Q) m σ) :
    C.W (exec (.AugAssign (.Name x p) op value pos) C.env) Q m σ := by
  rw [exec_AugAssign_Name]
  exact WE.bind (WE.standAt (WE.bind (h.mono1 fun a _ _ q => WE.bind (WE.holding (WE.mono1 q fun b _ _ q => WE.bind (WE.standAt (WE.bind (WE.operate ((q a b rfl rfl).mono1 fun v _ _ q => WE.bind (WE.standAt (WE.bind (WE.bindName ((q v rfl).mono1 fun _ _ _ q => WE.pure q)))))))))))))
@[reducible] noncomputable def k_s_if1 (C : Cx) (body) (Q : Flow → Map → Sto → Prop) (orelse) := fun (b : Bool) (m₁ : Map) (σ₁ : Sto) => if b then C.W (execs body C.env) Q m₁ σ₁ else C.W (execs orelse C.env) Q m₁ σ₁
theorem s_if {test body orelse pos} (h : C.W (isTrue test C.env (eval test C.env)) (k_s_if1 C body Q orelse) m σ) :
    C.W (exec (.If test body orelse pos) C.env) Q m σ := by
  rw [exec_If]
  refine WE.bind (WE.standAt (WE.bind (h.mono1 fun b _ _ q => ?_)))
  cases b
  · exact q
  · exact q
@[reducible] noncomputable def k_s_ret1 (Q : Flow → Map → Sto → Prop) := fun v (m₁ : Map) (σ₁ : Sto) => ∀ v', er v' = v → Q (.ret v') m₁ σ₁
theorem s_ret {e pos} (h : C.V (eval e C.env) (k_s_ret1 Q) m σ) : C.W (exec (.Return (some e) pos) C.env) Q m σ := by
  rw [exec_Return_some]
  exact WE.bind (WE.standAt (WE.bind (h.mono1 fun v _ _ q => WE.pure (q v rfl))))
theorem s_break {pos} (h : Q .brk m σ) : C.W (exec (.Break pos) C.env) Q m σ := fun s st => wpAny_Break ⟨m, σ, s.heap, s.toks, rfl, st, Out.refl _ _ _, h⟩
theorem s_continue {pos} (h : Q .cont m σ) : C.W (exec (.Continue pos) C.env) Q m σ := fun s st => wpAny_Continue ⟨m, σ, s.heap, s.toks, rfl, st, Out.refl _ _ _, h⟩
theorem s_expr {e pos} (h : C.V (eval e C.env) (fun _ => Q .next) m σ) (hi : interactive C.env = false := by rfl) (hs : swapsWith e none pos.line C.env = pure false := by rfl) : C.W (exec (.Expr e pos) C.env) Q m σ :=
  fun s st => wpAny_Expr_any (wpAny_mono (h s st) (fun _ _ p => p.conv fun _ _ q => q) fun _ _ p => p) hi hs
@[reducible] noncomputable def k_s_assert1 (Q : Flow → Map → Sto → Prop) := fun b (m₁ : Map) (σ₁ : Sto) => b = true ∧ Q .next m₁ σ₁
theorem s_assert {test msg pos} (h : C.W (isTrue test C.env (eval test C.env)) (k_s_assert1 Q) m σ) : C.W (exec (.Assert test msg pos) C.env) Q m σ := by
  intro s st
  refine wpAny_Assert_holds (wpAny_mono (h s st) (fun b s' p => ?_) fun _ _ p => p)
  obtain ⟨m', σ', h', tk, e, st', o, hb, q⟩ := p
  exact ⟨hb, m', σ', h', tk, e, st', o, q⟩
end
end
section
def Room (A : Around) (k : Nat) : Prop := A.depth + k ≤ 900 ∧ A.units + 8 * k ≤ 9000 ∧ (40 ≤ k → A.handled = none)
theorem Room.le {A : Around} {k j : Nat} (r : Room A k) (h : j ≤ k) : Room A j := ⟨by have := r.1; omega, by have := r.2.1; omega, fun q => r.2.2 (by omega)⟩
theorem Room.deeper {A : Around} {k : Nat} (r : Room A (k + 1)) (env : Env) : Room (A.deeper env) k := by
  obtain ⟨a, b, c⟩ := r
  refine ⟨?_, ?_, fun q => c (by omega)⟩
  · show A.depth + 1 + k ≤ 900; omega
  · show A.units + 3 + 8 * k ≤ 9000; omega
section
variable (prog : Program) (w : World) (h₀ : Heap)
def FnPost (A : Around) (Q : Value → Sto → Prop) (E : Value → Sto → Prop) (σ : Sto) (s : Shared) (r : Result) (s' : Shared) : Prop :=
  ∃ σ' h tk, s' = { s with heap := h, toks := tk } ∧ Rep prog w h₀ A h σ' ∧ OutC σ s.heap σ' h ∧ match r with | .ok (.ret v) => Q (er v) σ' | .ok _ => False | .error e => E e σ'
def Fn (k : Nat) (f : Value) (args : List Value) (Q : Value → Sto → Prop) (E : Value → Sto → Prop) (σ : Sto) : Prop :=
  ∀ (A : Around) (s : Shared) (args' : List Value), Room A k → args'.map er = args → Rep prog w h₀ A s.heap σ →
    codeAny (model prog w) A (.call f ⟨args', []⟩) (FnPost prog w h₀ A Q E σ s) s
end
def botF : Value → Sto → Prop := fun _ _ => False
theorem Rep.around {prog : Program} {w : World} {h₀ : Heap} {A A' : Around} {h : Heap} {σ : Sto} (x : Rep prog w h₀ A h σ) (e : A'.handled = A.handled) (ef : A'.frames = A.frames) : Rep prog w h₀ A' h σ :=
  ⟨x.keep, x.obj, x.old, by unfold HOk; rw [e]; exact x.hand, by unfold FrOk; rw [ef]; exact x.fr, x.big⟩
theorem Rep.shallow {prog : Program} {w : World} {h₀ : Heap} {A : Around} {env : Env} {h : Heap} {σ : Sto} (x : Rep prog w h₀ (A.deeper env) h σ) : Rep prog w h₀ A h σ := by
  refine ⟨x.keep, x.obj, x.old, x.hand, ?_, x.big⟩
  obtain ⟨l', hl, k⟩ := x.fr
  have hl : A.frames.map (env :: ·) = some l' := hl
  obtain ⟨l, h1, rfl⟩ := Option.map_eq_some_iff.mp hl
  exact ⟨l, h1, fun e he => k e (.tail _ he)⟩
def erB (b : List (Str × Value)) : List (Str × Value) := b.map fun p => (p.1, er p.2)
def cellSto (σ : Sto) (cm : Str → Option Value) : List (Str × Addr) → Sto
  | [] => σ
  | (n, c) :: r => (cellSto σ cm r).upd c (.cell (cm n))
theorem bindL_er (kindOf : Str → Option NameKind) : ∀ (b : List (Str × Value)) (m : Str → Option Value) (y : Str), (bindL kindOf b m y).map er = bindL kindOf (erB b) (fun z => (m z).map er) y
  | [], m, y => rfl
  | (n, v) :: r, m, y => by
    show (bindL kindOf r _ y).map er = bindL kindOf (erB r) _ y
    rw [bindL_er kindOf r]
    congr 1
    funext z
    by_cases h : kindOf n = some .local
    · simp only [h, if_true]
      by_cases h2 : z = n <;> simp [h2]
    · simp only [h, if_false]
theorem bindC_er (kindOf : Str → Option NameKind) : ∀ (b : List (Str × Value)) (m : Str → Option Value) (y : Str), (bindC kindOf b m y).map er = bindC kindOf (erB b) (fun z => (m z).map er) y
  | [], m, y => rfl
  | (n, v) :: r, m, y => by
    show (bindC kindOf r _ y).map er = bindC kindOf (erB r) _ y
    rw [bindC_er kindOf r]
    congr 1
    funext z
    by_cases h : kindOf n = some .local
    · simp only [h, if_true]
    · simp only [h, if_false]
      by_cases h2 : z = n <;> simp [h2]
theorem cellSto_none {σ : Sto} {cm : Str → Option Value} : ∀ {cs : List (Str × Addr)} {b : Addr}, σ b = none → (∀ n c, (n, c) ∈ cs → b ≠ c) → cellSto σ cm cs b = none
  | [], _, h, _ => h
  | (n, c) :: r, b, h, k => by
    show (cellSto σ cm r).upd c _ b = none
    rw [Sto.upd_ne (k n c (.head _))]
    exact cellSto_none h fun n' c' hm => k n' c' (.tail _ hm)
theorem cellSto_some {σ : Sto} {cm : Str → Option Value} : ∀ {cs : List (Str × Addr)} {b : Addr} {x : AO}, cellSto σ cm cs b = some x → σ b = some x ∨ ∃ n, (n, b) ∈ cs ∧ x = .cell (cm n)
  | [], _, _, h => .inl h
  | (n, c) :: r, b, x, h => by
    by_cases q : b = c
    · subst q
      have h' : (cellSto σ cm r).upd b (.cell (cm n)) b = some x := h
      rw [Sto.upd_same] at h'
      exact .inr ⟨n, .head _, (Option.some.inj h').symm⟩
    · have h' : (cellSto σ cm r).upd c (.cell (cm n)) b = some x := h
      rw [Sto.upd_ne q] at h'
      rcases cellSto_some h' with y | ⟨n', hm, e⟩
      · exact .inl y
      · exact .inr ⟨n', .tail _ hm, e⟩
theorem lookup_of_mem_nodup {cs : List (Str × Addr)} (hn : (cs.map (·.1)).Nodup) {n : Str} {c : Addr} (hm : (n, c) ∈ cs) : cs.lookup n = some c := by
  induction cs with
  | nil => cases hm
  | cons p r ih =>
    obtain ⟨k, d⟩ := p
    rw [List.map_cons, List.nodup_cons] at hn
    rw [List.lookup_cons]
    rcases List.mem_cons.mp hm with e | hm'
    · cases e; simp
    · have : (n == k) = false := by
        rw [beq_eq_false_iff_ne]
        rintro rfl
        exact hn.1 (List.mem_map.mpr ⟨_, hm', rfl⟩)
      rw [this]
      exact ih hn.2 hm'
def flowVal : Flow → Value
  | .ret v => v
  | _ => .none
theorem fn_enter {prog : Program} {w : World} {h₀ : Heap} {k : Nat} {fa : Addr} {o : Obj} {fd : FuncData} {body : List Stmt} {args : List Value} {Q : Value → Sto → Prop} {σ : Sto}
    (ho : h₀.get? fa = some o) (hd : o.data = .func fd) (hbody : fd.body = .stmts body) (hclo : fd.closure = []) (hlim : h₀.NoLimit) (hcd : h₀.CodeRec fd.code fd.qualname)
    (B : List (Str × Value) → Sto → Prop)
    (hbind : ∀ (A : Around) (s : Shared) (vals : List Value), vals.map er = args → Rep prog w h₀ A s.heap σ → wpAny (model prog w) A.in1 (bindArgs fd ⟨vals, []⟩)
      (fun binds s' => ∃ σ₁ h tk, s' = { s with heap := h, toks := tk } ∧ Rep prog w h₀ A h σ₁ ∧ OutC σ s.heap σ₁ h ∧ B (erB binds) σ₁) (fun _ _ => False) s)
    (hkind : ∀ eb σ₁, B eb σ₁ → ∀ N, ∀ n ∈ eb.map (·.1), fd.scope.names.lookup n = some .local ∨ (fd.scope.names.lookup n = some .cell ∧ ((cellsFrom N fd.scope.names []).lookup n).isSome = true))
    (hnd : ∀ N, ((cellsFrom N fd.scope.names []).map (·.1)).Nodup)
    (h : ∀ (A : Around) (L : Addr) eb σ₁, Room A k → (∃ l, A.frames = some (callEnvC fd L fa :: l)) → B eb σ₁ → σ₁ L = none → (∀ c ∈ (callEnvC fd L fa).cells, σ₁ c.2 = none ∧ c.2 ≠ L) → WE prog w h₀ A L botE (execs body (callEnvC fd L fa)) (fun f _ σ' => Q (er (flowVal f)) σ')
      (bindL (callEnvC fd L fa).kindOf eb fun _ => none) (cellSto σ₁ (bindC (callEnvC fd L fa).kindOf eb fun _ => none) (callEnvC fd L fa).cells))
    (hco : fd.scope.isCoroutine = false := by rfl) (hgen : fd.scope.isGenerator = false := by rfl) (hk : fd.scope.kind = .function := by rfl) :
    Fn prog w h₀ (k + 1) (.ref fa) args Q botF σ := by
  intro A s args' room hargs rep
  refine codeAny_call_function (by have := room.1; show A.depth < recursionLimit; unfold recursionLimit; omega) (rep.keep _ _ ho) hd hco hgen hbody (by
    obtain ⟨c, oc, vs, tq, hc, hoc, r⟩ := hcd
    exact ⟨c, oc, vs, tq, hc, rep.keep _ _ hoc, r⟩) ?_
  refine wpAny_mono (hbind A s args' hargs rep) (fun binds s' p => ?_) fun _ _ f => f.elim
  obtain ⟨σ₁, h₁, t₁, rfl, rep₁, o₁, hB⟩ := p
  rw [hclo]
  have names_eq : (erB binds).map (·.1) = binds.map (·.1) := by simp [erB, List.map_map, Function.comp_def]
  refine wpAny_newFunctionEnv_cells hk (fun x hx => hkind _ _ hB _ _ (by rw [names_eq]; exact List.mem_map_of_mem hx)) fun env he s₂ X => ?_
  subst he
  obtain ⟨h₂, t₂, rfl⟩ := X.toInCall.same
  have keep₂ : ∀ b ob, h₁.get? b = some ob → h₂.get? b = some ob := X.toInCall.keep
  refine ⟨(hlim.keeps rep₁.keep).keeps keep₂, codeAny_func ?_⟩
  show wpAny (model prog w) (A.deeper (callEnvC fd h₁.objs.size fa)) (execs body (callEnvC fd h₁.objs.size fa)) _ _ _
  have fresh : ∀ b, h₁.objs.size ≤ b → σ₁ b = none := fun b hb => by
    cases q : σ₁ b with
    | none => rfl
    | some y => exact absurd (rep₁.lt q) (Nat.not_lt.mpr hb)
  have hLn : σ₁ h₁.objs.size = none := fresh _ (Nat.le_refl _)
  have hcells : ∀ c ∈ (callEnvC fd h₁.objs.size fa).cells, σ₁ c.2 = none ∧ c.2 ≠ h₁.objs.size := fun c hc => by
    have l : h₁.objs.size < c.2 := X.above c.1 c.2 hc
    exact ⟨fresh _ (Nat.le_of_lt l), Nat.ne_of_gt l⟩
  have st₂ : St prog w h₀ (A.deeper (callEnvC fd h₁.objs.size fa)) h₁.objs.size h₂ (bindL (callEnvC fd h₁.objs.size fa).kindOf (erB binds) fun _ => none)
      (cellSto σ₁ (bindC (callEnvC fd h₁.objs.size fa).kindOf (erB binds) fun _ => none) (callEnvC fd h₁.objs.size fa).cells) := by
    refine { keep := fun b ob e => keep₂ _ _ (rep₁.keep _ _ e), obj := fun a y e => ?_, old := fun a e => ?_, hand := ?_, fr := ?_, big := ?_, ns := ?_, off := ?_, above := rep₁.big }
    · rcases cellSto_some e with e' | ⟨n, hm, rfl⟩
      · obtain ⟨ob, g, i⟩ := rep₁.obj a y e'
        exact ⟨ob, keep₂ _ _ g, i⟩
      · obtain ⟨ob, g, dt⟩ := X.cell n a (lookup_of_mem_nodup (hnd _) hm)
        refine ⟨ob, g, _, dt, ?_⟩
        rw [bindC_er]; rfl
    · cases q : cellSto σ₁ (bindC (callEnvC fd h₁.objs.size fa).kindOf (erB binds) fun _ => none) (callEnvC fd h₁.objs.size fa).cells a with
      | none => exact absurd q e
      | some y =>
        rcases cellSto_some q with e' | ⟨n, hm, rfl⟩
        · exact rep₁.old a (by rw [e']; intro c; cases c)
        · exact Nat.le_trans rep₁.big (Nat.le_of_lt (X.above n a hm))
    · show HOk (A.deeper _) h₂ _
      have hm : HOk A h₂ (cellSto σ₁ (bindC (callEnvC fd h₁.objs.size fa).kindOf (erB binds) fun _ => none) (callEnvC fd h₁.objs.size fa).cells) := by
        refine rep₁.hand.move fun a ob vs g n d z => ⟨keep₂ _ _ g, cellSto_none n fun n' c' hm q => ?_⟩
        have := X.above n' c' hm
        rw [← q] at this
        exact absurd (Heap.lt_size g) (Nat.not_lt.mpr (Nat.le_of_lt this))
      exact hm
    · obtain ⟨l, hl, k⟩ := rep₁.fr
      refine ⟨callEnvC fd h₁.objs.size fa :: l, by show A.frames.map _ = _; rw [hl]; rfl, fun env he => ?_⟩
      rcases List.mem_cons.mp he with rfl | he
      · obtain ⟨o', es, ep, g, dt, _⟩ := X.toInCall.ns
        refine ⟨?_, h₁.objs.size, o', es, ep, rfl, g, dt, rep₁.big, cellSto_none hLn fun n c hm q => ?_⟩
        · show fd.scope.kind ≠ .module
          rw [hk]; exact fun c => nomatch c
        · have := X.above n c hm
          rw [← q] at this
          exact Nat.lt_irrefl _ this
      · obtain ⟨km, L', ob, es, n, hf, g, d, bb, nn⟩ := k env he
        refine ⟨km, L', ob, es, n, hf, keep₂ _ _ g, d, bb, cellSto_none nn fun n' c' hm q => ?_⟩
        have := X.above n' c' hm
        rw [← q] at this
        exact absurd (Heap.lt_size g) (Nat.not_lt.mpr (Nat.le_of_lt this))
    · exact Nat.le_of_lt (Nat.lt_of_le_of_lt rep₁.big X.toInCall.ns.lt)
    · exact ⟨_, X.toInCall.ns, fun y => by rw [bindL_er]; rfl⟩
    · exact cellSto_none hLn fun n c hm q => by
        have := X.above n c hm
        rw [← q] at this
        exact Nat.lt_irrefl _ this
  have W := h (A.deeper (callEnvC fd h₁.objs.size fa)) h₁.objs.size (erB binds) σ₁ (room.deeper _) (let ⟨l, hl, _⟩ := rep₁.fr; ⟨l, by show A.frames.map _ = _; rw [hl]; rfl⟩) hB hLn hcells { s with heap := h₂, toks := t₂ } st₂
  have back : ∀ {σ' : Sto} {h' : Heap} {m' : Map}, St prog w h₀ (A.deeper (callEnvC fd h₁.objs.size fa)) h₁.objs.size h' m' σ' → Out h₁.objs.size (cellSto σ₁ (bindC (callEnvC fd h₁.objs.size fa).kindOf (erB binds) fun _ => none) (callEnvC fd h₁.objs.size fa).cells) h₂ σ' h' → Rep prog w h₀ A h' σ' ∧ OutC σ s.heap σ' h' := by
    intro σ' h' m' st o
    have o' : OutC σ₁ h₁ σ' h' := fun b ob e₁ n₁ => by
      have lt := Heap.lt_size e₁
      exact o b ob (keep₂ _ _ e₁) (cellSto_none n₁ fun n' c' hm q => by
        have := X.above n' c' hm
        rw [← q] at this
        exact absurd lt (Nat.not_lt.mpr (Nat.le_of_lt this))) (Nat.ne_of_lt lt)
    exact ⟨st.toRep.shallow, o₁.trans o'⟩
  refine wpAny_mono W (fun f s' p => ?_) fun e s' p => ?_
  · obtain ⟨m', σ', h', tk, rfl, st, o, q⟩ := p
    obtain ⟨r, oc⟩ := back st o
    exact ⟨σ', h', tk, rfl, r, oc, by cases f <;> exact q⟩
  · obtain ⟨m', σ', h', tk, rfl, st, o, q⟩ := p
    exact q.elim
end
section
abbrev Cx.WL (C : Cx) (t : Sem (List Value)) (Q : List Value → Map → Sto → Prop) (m : Map) (σ : Sto) : Prop := C.W t (fun vs m' σ' => Q (vs.map er) m' σ') m σ
section
variable {C : Cx} {m : Map} {σ : Sto}
def items (C : Cx) (pos : Pos) (es : List Expr) (Q : List Value → Map → Sto → Prop) (m : Map) (σ : Sto) : Prop := C.WL (spliced (backTo pos (starEach es C.env))) Q m σ
def vcall (C : Cx) (f : Value) (args : List Value) (Q : Value → Map → Sto → Prop) (m : Map) (σ : Sto) : Prop := ∀ args', args'.map er = args → C.V (call f args') Q m σ
def cw (C : Cx) (pos : Pos) (f : Value) (first : List Value) (es : List Expr) (Q : Value → Map → Sto → Prop) (m : Map) (σ : Sto) : Prop :=
  ∀ first', first'.map er = first → C.V (callWith pos f first' (backTo pos (starEach es C.env)) []) Q m σ
def getm (C : Cx) (ov : Value) (name : Str) (Q : Value → List Value → Map → Sto → Prop) (m : Map) (σ : Sto) : Prop :=
  ∀ ov' pl, er ov' = ov → C.W (getMethod ov' name pl) (fun fx m' σ' => Q fx.1 (fx.2.map er) m' σ') m σ
theorem it_nil {pos : Pos} {Q : List Value → Map → Sto → Prop} (h : Q [] m σ) : items C pos [] Q m σ := WE.pure (a := ([] : List Value)) h
@[reducible] noncomputable def k_it_cons1 (Q : List Value → Map → Sto → Prop) (v) := fun vs (m₂ : Map) (σ₂ : Sto) => Q (v :: vs) m₂ σ₂
@[reducible] noncomputable def k_it_cons2 (C : Cx) (pos : Pos) (es : List Expr) (Q : List Value → Map → Sto → Prop) := fun v (m₁ : Map) (σ₁ : Sto) => items C pos es (k_it_cons1 Q v) m₁ σ₁
theorem it_cons {pos : Pos} {e : Expr} {es : List Expr} {Q : List Value → Map → Sto → Prop} (h : C.V (eval e C.env) (k_it_cons2 C pos es Q) m σ)
    (he : starEach (e :: es) C.env = (false, eval e C.env) :: starEach es C.env := by rfl) : items C pos (e :: es) Q m σ := by
  intro s st
  refine wpAny_items_cons (wpAny_mono (h s st) (fun v s₁ p => ?_) fun _ _ e => e) he
  obtain ⟨m₁, σ₁, h₁, t₁, rfl, st₁, o₁, q₁⟩ := p
  exact wpAny_mono (q₁ _ st₁) (fun _ _ p => PostW.trans o₁ (p.conv fun _ _ q => q)) fun _ _ p => p.trans o₁
theorem notIter_seq {v : Value} {a : Addr} {T : String} (hT : T = "list" ∨ T = "tuple") (s : Shared) (hs : s.TypeIs (.ref a) T) {M : Model} {A : Around} {E : Value → Shared → Prop} {Q : Bool → Shared → Prop} (h : Q false s) :
    wpAny M A (notIterableAtAll (.ref a)) Q E s := by
  unfold notIterableAtAll
  rcases hT with rfl | rfl
  · exact wpAny_bind (wpAny_specialOf hs slot_list_iter.lookup (wpAny_pure h))
  · exact wpAny_bind (wpAny_specialOf hs slot_tuple_iter.lookup (wpAny_pure h))
def seqAt (σ : Sto) (a : Addr) (vs : List Value) : Prop := σ a = some (.list vs) ∨ σ a = some (.tup vs)
theorem seqAt.obj {h : Heap} {a : Addr} {vs : List Value} (x : seqAt σ a vs) (st : C.S h m σ) : ∃ T, (T = "list" ∨ T = "tuple") ∧ ∃ its n, h.get? a = some { cls := .type T, data := .seq its n } ∧ its.toList.map er = vs := by
  rcases x with e | e
  · obtain ⟨o, ho, its, n, rfl, e'⟩ := st.obj a _ e
    exact ⟨"list", .inl rfl, its, n, ho, e'⟩
  · obtain ⟨o, ho, its, n, rfl, e'⟩ := st.obj a _ e
    exact ⟨"tuple", .inr rfl, its, n, ho, e'⟩
theorem starOf {a : Addr} {vs : List Value} {s : Shared} {Q : List Value → Shared → Prop} {E : Value → Shared → Prop} (x : seqAt σ a vs) (st : C.S s.heap m σ) (hsz : vs.length ≤ sizeLine)
    (h : ∀ us h', us.map er = vs → (∀ b o, s.heap.get? b = some o → h'.get? b = some o) → Q us { s with heap := h' }) : StarOf (model C.prog C.w) C.A E (.ref a) Q s := by
  obtain ⟨T, hT, its, n, ho, e⟩ := x.obj st
  refine notIter_seq (v := .ref a) hT s ⟨_, ho, rfl⟩ ⟨rfl, ?_⟩
  refine wpAny_collect_seq a hT ho rfl rfl (fun h' k => h _ _ e k) ?_
  have := congrArg List.length e
  rw [List.length_map, Array.length_toList] at this
  omega
@[reducible] noncomputable def k_it_star1 (Q : List Value → Map → Sto → Prop) (vs) := fun us (m₂ : Map) (σ₂ : Sto) => Q (vs ++ us) m₂ σ₂
@[reducible] noncomputable def k_it_star2 (C : Cx) (pos : Pos) (es : List Expr) (Q : List Value → Map → Sto → Prop) := fun (v : Value) (m₁ : Map) (σ₁ : Sto) => ∃ a vs, v = .ref a ∧ seqAt σ₁ a vs ∧ vs.length ≤ sizeLine ∧ items C pos es (k_it_star1 Q vs) m₁ σ₁
theorem it_star {pos p : Pos} {e : Expr} {es : List Expr} {Q : List Value → Map → Sto → Prop}
    (h : C.V (eval e C.env) (k_it_star2 C pos es Q) m σ)
    (he : starEach (.Starred e p :: es) C.env = (true, eval e C.env) :: starEach es C.env := by rfl) : items C pos (.Starred e p :: es) Q m σ := by
  intro s st
  refine items_star (wpAny_mono (h s st) (fun v s₁ p => ?_) fun _ _ e => e) he
  obtain ⟨m₁, σ₁, h₁, t₁, rfl, st₁, o₁, a, vs, hv, hs, hz, q₁⟩ := p
  rw [er_ref hv]
  refine starOf hs st₁ hz fun us h' hu k => ?_
  obtain ⟨st₂, o₂⟩ := st₁.grown k
  refine wpAny_mono (q₁ { s with heap := h', toks := t₁ } st₂) (fun ws s₂ p => ?_) fun _ _ p => PostW.trans (o₁.trans o₂) p
  obtain ⟨m', σ', h'', tk, e', st', o', q⟩ := p
  refine ⟨m', σ', h'', tk, e', st', (o₁.trans o₂).trans o', ?_⟩
  show Q ((us ++ ws).map er) m' σ'
  rw [List.map_append, hu]
  exact q
theorem args_of {f : Value} {pos : Pos} {es : List Expr} {Q : Args → Map → Sto → Prop} (h : items C pos es (fun vs m' σ' => ∀ vs', vs'.map er = vs → Q ⟨vs', []⟩ m' σ') m σ)
    (hl : ∃ x rest, starEach es C.env = (false, x) :: rest) : C.W (evalArgs f true (backTo pos (starEach es C.env)) []) Q m σ := by
  intro s st
  obtain ⟨x, rest, e⟩ := hl
  have z := h s st
  unfold items at z
  rw [e] at z ⊢
  refine Calls.evalArgs_plain (x := x) (rest := backTo pos rest) (wpAny_mono z (fun vs s' p => ?_) fun _ _ p => p)
  obtain ⟨m', σ', h', tk, e', st', o, q⟩ := p
  exact ⟨m', σ', h', tk, e', st', o, q vs rfl⟩
theorem args_lone {f : Value} {pos p : Pos} {e : Expr} {Q : Args → Map → Sto → Prop}
    (h : C.V (eval e C.env) (fun v m₁ σ₁ => ∃ a vs, v = .ref a ∧ seqAt σ₁ a vs ∧ vs.length ≤ sizeLine ∧ ∀ vs', vs'.map er = vs → Q ⟨vs', []⟩ m₁ σ₁) m σ)
    (he : starEach [.Starred e p] C.env = [(true, eval e C.env)] := by rfl) : C.W (evalArgs f true (backTo pos (starEach [.Starred e p] C.env)) []) Q m σ := by
  intro s st
  rw [he]
  refine ks_lone (wpAny_mono (h s st) (fun v s₁ p => ?_) fun _ _ e => e)
  obtain ⟨m₁, σ₁, h₁, t₁, rfl, st₁, o₁, a, vs, hv, hs, hz, q₁⟩ := p
  rw [er_ref hv]
  refine starOf hs st₁ hz fun us h' hu k => ?_
  obtain ⟨st₂, o₂⟩ := st₁.grown k
  exact ⟨m₁, σ₁, h', t₁, rfl, st₂, o₁.trans o₂, q₁ us hu⟩
theorem WE.lookP {α β : Type} {t : Sem α} {f : α → Sem β} {P : α → Prop} {Q : β → Map → Sto → Prop} (hk : ∀ h, C.S h m σ → ∃ k, P k ∧ Looks (model C.prog C.w) h t k) (h : ∀ k, P k → C.W (f k) Q m σ) : C.W (t >>= f) Q m σ :=
  fun s st => let ⟨k, p, l⟩ := hk _ st; wpAny_bind (l.here (h k p s st))
def Keeps1 (C : Cx) (f : Value) (σ : Sto) : Prop := ∀ h m, C.S h m σ → ∃ k, k ≠ Keeper.caller ∧ Looks (model C.prog C.w) h (keeperOf f) k
theorem w_callWith {pos : Pos} {f : Value} {first : List Value} {es : List Expr} {Q : Value → Map → Sto → Prop}
    (h : C.W (evalArgs f true (backTo pos (starEach es C.env)) []) (fun a m₁ σ₁ => Keeps1 C f σ₁ ∧ a.kw = [] ∧ C.V (call f (first ++ a.pos)) Q m₁ σ₁) m σ) :
    C.V (callWith pos f first (backTo pos (starEach es C.env)) []) Q m σ := by
  unfold callWith
  refine WE.bind (WE.holding (WE.mono1 h fun a m₁ σ₁ q => WE.bind (WE.standAt ?_)))
  obtain ⟨hk, hkw, q⟩ := q
  obtain ⟨ap, ak⟩ := a
  cases hkw
  have tail : ∀ {t : Sem Value} {m σ}, C.V t Q m σ → C.W (t >>= fun r => holding [r] point >>= fun _ => pure r) (fun v m' σ' => Q (er v) m' σ') m σ :=
    fun ht => WE.bind (WE.mono1 ht fun r _ _ q => WE.bind (WE.holding (fun s st => wpAny_point ⟨_, _, s.heap, s.toks, rfl, st, Out.refl _ _ _, WE.pure q⟩)))
  have marked (mk : Value) : C.V (callMarked mk f (first ++ ap) []) Q m₁ σ₁ := fun s st => by unfold callMarked; exact Calls.wpAny_keep (q s st)
  refine WE.lookP (P := fun k => k ≠ Keeper.caller) (fun h st => hk _ _ st) fun k hk1 => ?_
  cases k with
  | caller => exact absurd rfl hk1
  | frame =>
    cases hst : ((backTo pos (starEach es C.env)).any (·.1) || ([] : List (Option Str × Sem Value)).any (·.1.isNone))
    · dsimp only
      split
      · exact tail q
      · exact tail (marked _)
    · exact tail (marked _)
  | boundFrame =>
    cases hst : ((backTo pos (starEach es C.env)).any (·.1) || ([] : List (Option Str × Sem Value)).any (·.1.isNone))
    · dsimp only
      split
      · exact tail q
      · exact tail (marked _)
    · exact tail (WE.operate q)
  | machine =>
    cases hst : ((backTo pos (starEach es C.env)).any (·.1) || ([] : List (Option Str × Sem Value)).any (·.1.isNone))
    · exact tail q
    · exact tail (WE.operate q)
@[reducible] def app : List Value → List Value → List Value
  | [], ys => ys
  | x :: xs, ys => x :: app xs ys
theorem app_eq : ∀ xs ys : List Value, app xs ys = xs ++ ys
  | [], _ => rfl
  | x :: xs, ys => by rw [app, app_eq xs ys]; rfl
theorem cw_nil {pos : Pos} {f : Value} {first : List Value} {Q : Value → Map → Sto → Prop} (hk : Keeps1 C f σ) (h : vcall C f first Q m σ) : cw C pos f first [] Q m σ := fun first' e =>
  w_callWith (fun s st => PySem.evalArgs_none ⟨m, σ, s.heap, s.toks, rfl, st, Out.refl _ _ _, hk, rfl, h _ (by simpa using e)⟩)
@[reducible] noncomputable def k_cw_plain1 (C : Cx) (f : Value) (first : List Value) (Q : Value → Map → Sto → Prop) := fun vs (m₁ : Map) (σ₁ : Sto) => Keeps1 C f σ₁ ∧ vcall C f (app first vs) Q m₁ σ₁
theorem cw_plain {pos : Pos} {f : Value} {first : List Value} {es : List Expr} {Q : Value → Map → Sto → Prop} (hl : ∃ x rest, starEach es C.env = (false, x) :: rest)
    (h : items C pos es (k_cw_plain1 C f first Q) m σ) : cw C pos f first es Q m σ := fun first' e =>
  w_callWith (args_of (WE.mono1 h fun vs _ _ q vs' e' => ⟨q.1, rfl, q.2 _ (by rw [List.map_append, e, e', app_eq])⟩) hl)
@[reducible] noncomputable def k_cw_lone1 (C : Cx) (f : Value) (first : List Value) (Q : Value → Map → Sto → Prop) := fun (v : Value) (m₁ : Map) (σ₁ : Sto) => ∃ a vs, v = .ref a ∧ seqAt σ₁ a vs ∧ vs.length ≤ sizeLine ∧ Keeps1 C f σ₁ ∧ vcall C f (app first vs) Q m₁ σ₁
theorem cw_lone {pos p : Pos} {f : Value} {first : List Value} {e : Expr} {Q : Value → Map → Sto → Prop}
    (h : C.V (eval e C.env) (k_cw_lone1 C f first Q) m σ)
    (he : starEach [.Starred e p] C.env = [(true, eval e C.env)] := by rfl) : cw C pos f first [.Starred e p] Q m σ := fun first' e' =>
  w_callWith (args_lone (WE.mono1 h fun v _ _ q => by
    obtain ⟨a, vs, hv, hs, hz, hk, q⟩ := q
    exact ⟨a, vs, hv, hs, hz, fun vs' e'' => ⟨hk, rfl, q _ (by rw [List.map_append, e', e'', app_eq])⟩⟩) he)
theorem keeps_builtin {id : String} : Keeps1 C (.builtin id) σ := fun h m st => ⟨.machine, (fun q => nomatch q), Looks.of_pure rfl⟩
theorem keeps_type {id : String} : Keeps1 C (.type id) σ := fun h m st => ⟨.machine, (fun q => nomatch q), Looks.of_pure rfl⟩
theorem keeps_in {K : Frag} {f : Value} (X : K.In C.h₀) (hk : keepIn K f = true) : Keeps1 C f σ := fun h m st => by
  obtain ⟨k, hk, l⟩ := keeps_K hk h (X.keeps st.keep)
  exact ⟨k, (by rcases hk with rfl | rfl | rfl <;> (intro q; cases q)), l⟩
def cf (C : Cx) (pos : Pos) (f : Value) (es : List Expr) (Q : Value → Map → Sto → Prop) (m : Map) (σ : Sto) : Prop := ∀ f', er f' = f → cw C pos f' [] es Q m σ
theorem cf_builtin {pos : Pos} {n : String} {es : List Expr} {Q : Value → Map → Sto → Prop} (h : cw C pos (.builtin n) [] es Q m σ) : cf C pos (.builtin n) es Q m σ := fun f' e => by rw [er_builtin e]; exact h
theorem cf_type {pos : Pos} {n : String} {es : List Expr} {Q : Value → Map → Sto → Prop} (h : cw C pos (.type n) [] es Q m σ) : cf C pos (.type n) es Q m σ := fun f' e => by rw [er_type e]; exact h
theorem cf_ref {pos : Pos} {a : Addr} {es : List Expr} {Q : Value → Map → Sto → Prop} (h : cw C pos (.ref a) [] es Q m σ) : cf C pos (.ref a) es Q m σ := fun f' e => by rw [er_ref e]; exact h
@[reducible] noncomputable def k_v_call1 (C : Cx) (pos : Pos) (es : List Expr) (Q : Value → Map → Sto → Prop) := fun f (m₁ : Map) (σ₁ : Sto) => cf C pos f es Q m₁ σ₁
theorem v_call {func : Expr} {es : List Expr} {pos : Pos} {Q : Value → Map → Sto → Prop} (h : C.V (eval func C.env) (k_v_call1 C pos es Q) m σ)
    (he : eval (.Call func es [] pos) C.env = (do callWith pos (← eval func C.env) [] (backTo pos (starEach es C.env)) (backToKw pos (keywordEach [] C.env))) := by rfl) : C.V (eval (.Call func es [] pos) C.env) Q m σ := by
  rw [he]
  exact WE.bind (WE.mono1 h fun f _ _ q => q f rfl [] rfl)
@[reducible] noncomputable def k_v_meth1 (C : Cx) (pos : Pos) (es : List Expr) (Q : Value → Map → Sto → Prop) := fun f first (m₂ : Map) (σ₂ : Sto) => cw C pos f first es Q m₂ σ₂
@[reducible] noncomputable def k_v_meth2 (C : Cx) (name : Str) (pos : Pos) (es : List Expr) (Q : Value → Map → Sto → Prop) := fun (ov : Value) (m₁ : Map) (σ₁ : Sto) => getm C ov name (k_v_meth1 C pos es Q) m₁ σ₁
theorem v_meth {o : Expr} {name : Str} {apos pos : Pos} {es : List Expr} {pl : Sem Bool} {Q : Value → Map → Sto → Prop}
    (h : C.V (eval o C.env) (k_v_meth2 C name pos es Q) m σ)
    (he : eval (.Call (.Attribute o name apos) es [] pos) C.env = (do
      let ov ← eval o C.env
      PySem.standAt apos.atName
      let (f, first) ← PySem.holding [ov] (getMethod ov name pl)
      callWith pos f first (backTo pos (starEach es C.env)) []) := by rfl) : C.V (eval (.Call (.Attribute o name apos) es [] pos) C.env) Q m σ := by
  rw [he]
  exact WE.bind (WE.mono1 h fun ov _ _ q => WE.bind (WE.standAt (WE.bind (WE.holding (WE.mono1 (q ov pl rfl) fun fx _ _ q => q fx.2 rfl)))))
theorem call_fn {k : Nat} {f : Value} {args : List Value} {Q : Value → Map → Sto → Prop} (room : Room C.A k) (h : Fn C.prog C.w C.h₀ k f args (fun v σ' => Q v m σ') botF σ) : vcall C f args Q m σ := by
  intro args' e s st
  refine wpAny_call (codeAny_mono (h C.A s args' room e st.toRep) fun r s' p => ?_)
  obtain ⟨σ', h', tk, rfl, rep, oc, q⟩ := p
  have z : C.S h' m σ' := by
    obtain ⟨mc, hn, hm⟩ := st.ns
    have hL : ∀ o, s.heap.get? C.env.locals = some o → Kp h' C.env.locals o ∧ σ' C.env.locals = none := fun o ho => oc _ _ ho st.off
    obtain ⟨oL, _, _, hoL, _⟩ := id hn
    exact { toRep := rep, ns := ⟨mc, Kp.ns hn fun o ho => (hL o ho).1, hm⟩, off := (hL _ hoL).2, above := st.above }
  match r, q with
  | .ok (.ret v), q => exact ⟨m, σ', h', tk, rfl, z, oc.out, q⟩
  | .error e, q => exact q.elim
end
end
section
def HH (A : Around) (h : Heap) : Prop := HOk A h fun _ => none
theorem HOk.hh {A : Around} {h : Heap} {σ : Sto} (x : HOk A h σ) : HH A h := HOk.move x fun _ _ _ g _ _ _ => ⟨g, rfl⟩
theorem HH.extBut {A : Around} {h h' : Heap} {I : Addr} (x : HH A h) (k : Heap.ExtBut I h h') (n : ∃ o, h.get? I = some o ∧ Small o) : HH A h' := HOk.move x fun a o vs g _ d z => ⟨k _ _ (fun q => by
  obtain ⟨o', g', vs', d', z'⟩ := n
  rw [← q, g] at g'
  cases g'
  rw [d] at d'
  cases d'
  omega) g, rfl⟩
theorem entry_unchain : entryFor table "proto.unchain" = some Builtin.«proto.unchain» := entryFor_of_tree (by kernel_rfl)
theorem unchain_walk {prog : Program} {w : World} {A : Around} {s : Shared} {e : Addr} {l : List Addr} {σ : Sto} {R : Result → Shared → Prop} (hn : l.Nodup) (he : e ∉ l) (hl : ∀ (i : Nat) (a : Addr), l[i]? = some a → HAt s.heap σ a (lnk l[i + 1]?)) (q : R (.ok (.ret .none)) s) :
    ∀ (n i j : Nat) (o sl : Addr) (t : Bool), n = l.length - i → l[i]? = some o → l[j]? = some sl → j ≤ i → codeAny (model prog w) A (.builtin "proto.unchain" ⟨[.ref e, .ref o, .ref sl, .bool t], []⟩) R s
  | 0, i, j, o, sl, t, hm, ho, hs, hj => by
    have := (List.getElem?_eq_some_iff.mp ho).1
    omega
  | n + 1, i, j, o, sl, t, hm, ho, hs, hj => by
    refine codeAny_builtin entry_unchain ?_
    unfold Builtin.«proto.unchain»
    obtain ⟨ob, vs, g, _, d, _, c⟩ := hl i o ho
    refine wpAny_bind (wpAny_field g d c ?_)
    cases hx : l[i + 1]? with
    | none => exact wpAny_pure q
    | some b =>
      have hbe : b ≠ e := fun r => he (r ▸ List.mem_of_getElem? hx)
      have hbs : b ≠ sl := fun r => by
        subst r
        obtain ⟨z1, e1⟩ := List.getElem?_eq_some_iff.mp hx
        obtain ⟨z2, e2⟩ := List.getElem?_eq_some_iff.mp hs
        exact (List.pairwise_iff_getElem.mp hn) j (i + 1) z2 z1 (by omega) (e2.trans e1.symm)
      show wpAny _ _ (if (Value.ref b == Value.none) = true then _ else _) _ _ s
      rw [if_neg (show ¬ ((Value.ref b == Value.none) = true) from Bool.false_ne_true)]
      show wpAny _ _ (if (Value.ref b == Value.ref e) = true then _ else _) _ _ s
      rw [if_neg (show ¬ ((Value.ref b == Value.ref e) = true) from fun q => hbe (by have := eq_of_beq q; cases this; rfl))]
      show wpAny _ _ (if (Value.ref b == Value.ref sl) = true then _ else _) _ _ s
      rw [if_neg (show ¬ ((Value.ref b == Value.ref sl) = true) from fun q => hbs (by have := eq_of_beq q; cases this; rfl))]
      cases t with
      | false =>
        show wpAny _ _ (pure (Value.ref sl) >>= fun slow => again (.builtin "proto.unchain" ⟨[.ref e, .ref b, slow, .bool true], []⟩)) _ _ s
        refine wpAny_bind (wpAny_pure ?_)
        exact wpAny_pure ⟨Code.quiet_builtin _ (by decide +kernel), unchain_walk hn he hl q n (i + 1) j b sl true (by omega) hx hs (by omega)⟩
      | true =>
        show wpAny _ _ (field (.ref sl) 2 >>= fun slow => again (.builtin "proto.unchain" ⟨[.ref e, .ref b, slow, .bool false], []⟩)) _ _ s
        obtain ⟨ob', vs', g', _, d', _, c'⟩ := hl j sl hs
        have z := (List.getElem?_eq_some_iff.mp hx).1
        have hy : l[j + 1]? = some (l[j + 1]'(by omega)) := List.getElem?_eq_getElem _
        rw [hy] at c'
        refine wpAny_bind (wpAny_field g' d' c' ?_)
        exact wpAny_pure ⟨Code.quiet_builtin _ (by decide +kernel), unchain_walk hn he hl q n (i + 1) (j + 1) b _ false (by omega) hx hy (by omega)⟩
def hv (A : Around) : Value := A.handled.getD .none
def ExcAt (A : Around) (h : Heap) (e : Addr) (T : String) : Prop := ∃ t, h.get? e = some { cls := .type T, data := .fields #[.ref t, .none, hv A, .none, .bool false, .none] }
theorem raise_own {α : Type} {prog : Program} {w : World} {A : Around} {s : Shared} {h₁ : Heap} {e : Addr} {cl : Value} {t : Addr} {Q : α → Shared → Prop} {E : Value → Shared → Prop}
    (hh : HH A h₁) (hk : ∀ b o, h₁.get? b = some o → s.heap.get? b = some o) (hf : h₁.objs.size ≤ e) (he : s.heap.get? e = some { cls := cl, data := .fields #[.ref t, .none, .none, .none, .bool false, .none] })
    (h : ∀ h', Heap.SameBut e s.heap h' → h'.get? e = some { cls := cl, data := .fields #[.ref t, .none, hv A, .none, .bool false, .none] } → E (.ref e) { s with heap := h' }) : wpAny (model prog w) A (raiseNew (.ref e) : Sem α) Q E s := by
  simp only [raiseNew]
  refine wpAny_bind (wpAny_handled ?_)
  have lt : ∀ {a : Addr} {o : Obj}, h₁.get? a = some o → a ≠ e := fun {a o} g q => absurd (Heap.lt_size g) (by rw [q]; exact Nat.not_lt.mpr hf)
  unfold hv at h
  rcases hh with hh | ⟨l, hn, ⟨a, ha, e'⟩, ch⟩
  · rw [hh] at h ⊢
    exact wpAny_bind (wpAny_pure (wpAny_throw (h s.heap (Heap.SameBut.refl _ _) he)))
  · rw [e'] at h ⊢
    dsimp only
    have hel : e ∉ l := fun q => by
      obtain ⟨i, hi⟩ := List.getElem?_of_mem q
      obtain ⟨_, _, g, _⟩ := ch i e hi
      exact lt g rfl
    have hne : (Value.ref a != Value.ref e) = true := by
      rw [bne_iff_ne]
      intro q
      cases q
      exact hel (List.mem_of_getElem? ha)
    rw [if_pos hne]
    refine wpAny_bind (wpAny_holding (wpAny_runValue (unchain_walk (σ := fun _ => none) hn hel (fun i a q => (ch i a q).move fun o vs g _ _ _ => ⟨hk _ _ g, rfl⟩) ?_ _ 0 0 a a false rfl ha ha (Nat.le_refl _))))
    refine wpAny_bind ?_
    simp only [updateField]
    refine wpAny_bind (wpAny_load he ?_)
    dsimp only
    rw [if_pos (by simp)]
    refine wpAny_update he (wpAny_throw (h _ (Heap.SameBut.update ..) ?_))
    exact Heap.get?_update_self _ he rfl
theorem stop_any {α : Type} {prog : Program} {w : World} {A : Around} {s : Shared} {Q : α → Shared → Prop} {E : Value → Shared → Prop} (hh : HH A s.heap)
    (h : ∀ h' e, (∀ b o, s.heap.get? b = some o → h'.get? b = some o) → s.heap.objs.size ≤ e → ExcAt A h' e "StopIteration" → E (.ref e) { s with heap := h' }) :
    wpAny (model prog w) A (newExc (.type "StopIteration") [] >>= fun e => (raiseNew e : Sem α)) Q E s := by
  refine wpAny_bind ?_
  simp only [newExc, newTuple]
  refine wpAny_bind (wpAny_newObj_type ?_ (by size_fits))
  refine wpAny_bind (m := firstArgMember _ _) (wpAny_of_eq (a := Value.none) (by first | rfl | (simp only [firstArgMember]; rfl)) ?_)
  refine wpAny_newObj_type ?_ (by size_fits)
  generalize hH1 : s.heap.push { cls := .type "tuple", data := .seq ([] : List Value).toArray } = H1
  have k1 : ∀ b o, s.heap.get? b = some o → H1.get? b = some o := fun b o e => hH1 ▸ Heap.get?_push_of_some _ e
  have sz : H1.objs.size = s.heap.objs.size + 1 := by rw [← hH1, Heap.size_push]
  refine raise_own (cl := .type "StopIteration") (t := s.heap.objs.size) (e := H1.objs.size) hh (fun b o e => Heap.get?_push_of_some _ (k1 b o e)) (by rw [sz]; exact Nat.le_succ _) (Heap.get?_push_size _ rfl) fun h' hs hx => ?_
  refine h h' _ (fun b o e => ?_) (by rw [sz]; exact Nat.le_succ _) ⟨_, hx⟩
  refine (hs.2 b ?_).trans (Heap.get?_push_of_some _ (k1 b o e))
  intro q
  have := Heap.lt_size e
  rw [q, sz] at this
  exact absurd this (Nat.not_lt.mpr (Nat.le_succ _))
theorem isStop {M : Model} {A : Around} {E : Value → Shared → Prop} {s : Shared} {e : Addr} {Q : Bool → Shared → Prop} (x : ExcAt A s.heap e "StopIteration") (h : Q true s) : wpAny M A (isInstance (.ref e) (.type "StopIteration")) Q E s := by
  obtain ⟨t, g⟩ := x
  exact wpAny_isInstance (T := "StopIteration") (b := true) ⟨_, g, rfl⟩ isSubtype_stop h
section
variable {prog : Program} {w : World} {A : Around} {E : Value → Shared → Prop} {s : Shared}
theorem list_end {it l : Addr} {i : Nat} {items} {Q : Option Value → Shared → Prop} (hh : HH A s.heap)
    (hit : s.heap.IsListIter it l i) (hl : s.heap.IsList l items) (hx : items[i]? = none)
    (hQ : ∀ h', Heap.ExtBut it s.heap h' → Q none { s with heap := h' }) : wpAny (model prog w) A (pyNext (.ref it)) Q E s := by
  obtain ⟨o, ho, hc, hd⟩ := id hit
  obtain ⟨ol, hol, _, nl, hdl⟩ := hl
  unfold pyNext
  refine wpAny_bind (wpAny_attempt (wpAny_callSpecial?_slot (name := Str.ofString "__next__") hit.typeIs slot_listiter_next
    (wpAny_call_entry slot_listiter_next hit.typeIs entry_listiter_next ?_ (args_listiter_next _))))
  show wpAny _ _ (field (.ref it) 0 >>= _) _ _ s
  refine wpAny_bind (wpAny_field ho hd (x := .ref l) rfl ?_)
  show wpAny _ _ (if (Value.ref l == Value.none) = true then _ else _) _ _ s
  rw [if_neg (show ¬ ((Value.ref l == Value.none) = true) from Bool.false_ne_true)]
  show wpAny _ _ (field (.ref it) 1 >>= _) _ _ s
  refine wpAny_bind (wpAny_field ho hd (x := .int i 0) rfl ?_)
  show wpAny _ _ (seqItems? (.ref l) >>= _) _ _ s
  refine wpAny_bind (wpAny_seqItems hol hdl ?_)
  simp only [Int.toNat_natCast, hx]
  refine wpAny_bind (wpAny_rule (wpAny_bind (wpAny_setField ho hd (by simp) ?_)))
  have k0 : Heap.ExtBut it s.heap (s.heap.update it (Obj.mapFields (·.setIfInBounds 0 .none))) := (Heap.SameBut.update ..).extBut
  refine stop_any (hh.extBut k0 ⟨o, ho, _, hd, by simp⟩) fun h' e k _ hx => ?_
  refine wpAny_bind (isStop hx (wpAny_pure (hQ _ fun b o' hb e' => k _ _ (k0 b o' hb e'))))
theorem range_end {it : Addr} {x left step : Int} {Q : Option Value → Shared → Prop} (hh : HH A s.heap) (hit : IsRangeIter s.heap it x left step) (hleft : left ≤ 0)
    (hQ : ∀ h', Heap.ExtBut it s.heap h' → Q none { s with heap := h' }) : wpAny (model prog w) A (pyNext (.ref it)) Q E s := by
  have hT : s.TypeIs (.ref it) "range_iterator" := ⟨_, hit, rfl⟩
  unfold pyNext
  refine wpAny_bind (wpAny_attempt (wpAny_callSpecial?_slot (name := Str.ofString "__next__") hT F.slot_range_iterator_next
    (wpAny_call_entry F.slot_range_iterator_next hT F.entry_range_iterator_next ?_ (F.args_range_iterator_next_1 _))))
  show wpAny _ _ (field (.ref it) 0 >>= _) _ _ s
  refine wpAny_bind (wpAny_field hit rfl (x := rawInt x) rfl ?_)
  show wpAny _ _ (field (.ref it) 1 >>= _) _ _ s
  refine wpAny_bind (wpAny_field hit rfl (x := rawInt left) rfl ?_)
  show wpAny _ _ (field (.ref it) 2 >>= _) _ _ s
  refine wpAny_bind (wpAny_field hit rfl (x := rawInt step) rfl ?_)
  show wpAny _ _ (if left ≤ 0 then _ else _) _ _ s
  rw [if_pos hleft]
  refine wpAny_bind (wpAny_rule ?_)
  refine wpAny_bind ?_
  refine stop_any hh fun h' e k _ hx => ?_
  refine wpAny_bind (isStop hx (wpAny_pure (hQ _ fun b o' hb e' => k _ _ e')))
theorem dict_end {K : Type} [DecidableEq K] {knd : KeyKind prog w K} {it d : Addr} {i ep : Nat} {kvs : List (K × Value)} {Q : Option Value → Shared → Prop} (hh : HH A s.heap) (hit : s.heap.IsKeyIter it d i kvs.length ep)
    (hm : s.heap.DictAt knd d kvs ep) (hx : kvs[i]? = none)
    (hQ : ∀ h', Heap.ExtBut it s.heap h' → Q none { s with heap := h' }) : wpAny (model prog w) A (pyNext (.ref it)) Q E s := by
  obtain ⟨o, ho, hc, hd⟩ := id hit
  obtain ⟨od, es, hod, hcd, hdd, hk, hp, hn⟩ := id hm
  unfold pyNext
  refine wpAny_bind (wpAny_attempt (wpAny_callSpecial?_slot (name := Str.ofString "__next__") hit.typeIs F.slot_dict_keyiterator_next
    (wpAny_call_entry F.slot_dict_keyiterator_next hit.typeIs F.entry_dict_keyiterator_next ?_ (F.args_dict_keyiterator_next_1 _))))
  refine wpAny_bind (wpAny_pure ?_)
  refine wpAny_bind ?_
  refine wpAny_bind ?_
  first | refine wpAny_bind (wpAny_typeNameOfWhole_keyiter hit.typeIs (wpAny_pure ?_)) | refine wpAny_bind (wpAny_typeNameOf_keyiter hit.typeIs (wpAny_pure ?_))
  refine wpAny_bind (wpAny_fieldsOf ho hd ?_)
  have hown : Builtin.Dict_items.ownsTuple "dict_keyiterator" = false := by decide
  simp only [hown, Bool.false_eq_true, if_false]
  show wpAny _ _ (if (Value.ref d == Value.none) = true then _ else _) _ _ s
  rw [if_neg (show ¬ ((Value.ref d == Value.none) = true) from Bool.false_ne_true)]
  refine wpAny_bind (wpAny_pure ?_)
  refine wpAny_bind (wpAny_dictEntries hod hdd ?_)
  have hsz : es.size = kvs.length := by rw [← hp.length]; simp
  rw [if_neg (by rw [hsz]; simp)]
  refine wpAny_bind (wpAny_pure ?_)
  refine wpAny_bind (wpAny_dictEpoch hod hdd ?_)
  rw [if_neg (by simp)]
  refine wpAny_pure ?_
  have hge : es.size ≤ i := by rw [hsz]; simpa using hx
  simp only [show ¬ ((i : Int) < 0) from by omega, if_false, Int.toNat_natCast, Array.getElem?_eq_none hge]
  refine wpAny_bind ?_
  first | refine wpAny_bind (wpAny_typeNameOfWhole_keyiter hit.typeIs (wpAny_pure ?_)) | refine wpAny_bind (wpAny_typeNameOf_keyiter hit.typeIs (wpAny_pure ?_))
  show wpAny _ _ (setField (.ref it) 0 .none >>= _) _ _ s
  refine wpAny_bind (wpAny_setField ho hd (by simp) ?_)
  have k0 : Heap.ExtBut it s.heap (s.heap.update it (Obj.mapFields (·.setIfInBounds 0 .none))) := (Heap.SameBut.update ..).extBut
  refine stop_any (hh.extBut k0 ⟨o, ho, _, hd, by simp⟩) fun h' e k _ hx => ?_
  refine wpAny_bind (isStop hx (wpAny_pure (hQ _ fun b o' hb e' => k _ _ (k0 b o' hb e'))))
end
end
section
section
variable (prog : Program) (w : World) (h₀ : Heap) (A : Around)
structure Itr (I : Addr) (vs : List Value) (src : Sto → Prop) (G : Nat → Heap → Prop) : Prop where
  item : ∀ i v (s : Shared) σ (Q : Option Value → Shared → Prop) (E : Value → Shared → Prop), vs[i]? = some v → src σ → Rep prog w h₀ A s.heap σ → G i s.heap →
    (∀ v' h' tk, er v' = v → G (i + 1) h' → Heap.SameBut I s.heap h' → Q (some v') { s with heap := h', toks := tk }) → wpAny (model prog w) A (pyNext (.ref I)) Q E s
  done : ∀ (s : Shared) σ (Q : Option Value → Shared → Prop) (E : Value → Shared → Prop), src σ → Rep prog w h₀ A s.heap σ → G vs.length s.heap →
    (∀ h', Heap.ExtBut I s.heap h' → Q none { s with heap := h' }) → wpAny (model prog w) A (pyNext (.ref I)) Q E s
  keep : ∀ i (h h' : Heap), G i h → (∀ o, h.get? I = some o → h'.get? I = some o) → G i h'
  self : ∀ i (s : Shared) (Q : Value → Shared → Prop) (E : Value → Shared → Prop), G i s.heap → Q (.ref I) s → wpAny (model prog w) A (pyIter (.ref I)) Q E s
  live : ∀ i h, G i h → ∃ o, h.get? I = some o ∧ Small o
def Iters (xv : Value) (vs : List Value) (src : Sto → Prop) : Prop :=
  ∀ (s : Shared) σ xv' (Q : Value → Shared → Prop) (E : Value → Shared → Prop), er xv' = xv → src σ → Rep prog w h₀ A s.heap σ →
    (∀ G h', Itr prog w h₀ A s.heap.objs.size vs src G → G 0 h' → (∀ b o, s.heap.get? b = some o → h'.get? b = some o) → Q (.ref s.heap.objs.size) { s with heap := h' }) →
    wpAny (model prog w) A (pyIter xv') Q E s
end
section
variable {prog : Program} {w : World} {h₀ : Heap} {A : Around}
theorem arr_get {its : Array Value} {vs : List Value} (e : its.toList.map er = vs) {i : Nat} {v : Value} (h : vs[i]? = some v) : ∃ v', its[i]? = some v' ∧ er v' = v := by
  rw [← e, List.getElem?_map, Option.map_eq_some_iff] at h
  obtain ⟨v', h1, h2⟩ := h
  exact ⟨v', by rw [← Array.getElem?_toList]; exact h1, h2⟩
theorem arr_none {its : Array Value} {vs : List Value} (e : its.toList.map er = vs) : its[vs.length]? = none := by
  have := congrArg List.length e
  rw [List.length_map, Array.length_toList] at this
  exact Array.getElem?_eq_none (by omega)
theorem iters_list {l : Addr} {vs : List Value} : Iters prog w h₀ A (.ref l) vs (fun σ => σ l = some (.list vs)) := by
  intro s σ xv' Q E he hs rep k
  rw [er_ref he]
  obtain ⟨o, ho, its, n, rfl, e⟩ := rep.obj l _ hs
  have hl : s.heap.IsList l its := ⟨_, ho, rfl, n, rfl⟩
  refine wpAny_pyIter_list hl (k (fun i h => h.IsListIter s.heap.objs.size l i) _ ?_ ⟨_, Heap.get?_push_size _ rfl, rfl, rfl⟩ fun b o e => Heap.get?_push_of_some _ e)
  refine { item := ?_, done := ?_, keep := ?_, self := ?_, live := ?_ }
  · intro i v s' σ' Q' E' hv hs' rep' hG q
    obtain ⟨o', ho', its', n', rfl, e'⟩ := rep'.obj l _ hs'
    obtain ⟨v', h1, h2⟩ := arr_get e' hv
    exact wpAny_pyNext_list_item hG ⟨_, ho', rfl, n', rfl⟩ h1 fun h' a b => q v' h' s'.toks h2 a b
  · intro s' σ' Q' E' hs' rep' hG q
    obtain ⟨o', ho', its', n', rfl, e'⟩ := rep'.obj l _ hs'
    exact list_end rep'.hand.hh hG ⟨_, ho', rfl, n', rfl⟩ (arr_none e') q
  · rintro i h h' ⟨o', ho', r⟩ kk
    exact ⟨o', kk _ ho', r⟩
  · intro i s' Q' E' hG q
    exact wpAny_pyIter_listiter hG q
  · rintro i h ⟨o', ho', _, hd'⟩
    exact ⟨o', ho', _, hd', by simp⟩
theorem iters_tup {l : Addr} {vs : List Value} (hh : A.handled = none) : Iters prog w h₀ A (.ref l) vs (fun σ => σ l = some (.tup vs)) := by
  intro s σ xv' Q E he hs rep k
  rw [er_ref he]
  obtain ⟨o, ho, its, n, rfl, e⟩ := rep.obj l _ hs
  have hl : s.heap.IsTuple l its := ⟨_, ho, rfl, n, rfl⟩
  refine wpAny_pyIter_tuple hl (k (fun i h => h.IsTupleIter s.heap.objs.size l i) _ ?_ ⟨_, Heap.get?_push_size _ rfl, rfl, rfl⟩ fun b o e => Heap.get?_push_of_some _ e)
  refine { item := ?_, done := ?_, keep := ?_, self := ?_, live := ?_ }
  · intro i v s' σ' Q' E' hv hs' rep' hG q
    obtain ⟨o', ho', its', n', rfl, e'⟩ := rep'.obj l _ hs'
    obtain ⟨v', h1, h2⟩ := arr_get e' hv
    exact wpAny_pyNext_tuple_item hG ⟨_, ho', rfl, n', rfl⟩ h1 fun h' a b => q v' h' s'.toks h2 a b
  · intro s' σ' Q' E' hs' rep' hG q
    obtain ⟨o', ho', its', n', rfl, e'⟩ := rep'.obj l _ hs'
    exact wpAny_pyNext_tuple_end hh hG ⟨_, ho', rfl, n', rfl⟩ (arr_none e') q
  · rintro i h h' ⟨o', ho', r⟩ kk
    exact ⟨o', kk _ ho', r⟩
  · intro i s' Q' E' hG q
    exact wpAny_pyIter_tupleiter hG q
  · rintro i h ⟨o', ho', _, hd'⟩
    exact ⟨o', ho', _, hd', by simp⟩
end
@[reducible] def Cx.bot (C : Cx) : Cx := { C with E := botE }
section
variable {C : Cx} {m : Map} {σ : Sto}
def turnEnd (I : Map → Sto → Prop) (Q : Flow → Map → Sto → Prop) (f : Flow) (m : Map) (σ : Sto) : Prop := match f with
  | .next | .cont => I m σ
  | .brk => Q .next m σ
  | .ret r => Q (.ret r) m σ
theorem turn_next {I : Map → Sto → Prop} {Q : Flow → Map → Sto → Prop} {m : Map} {σ : Sto} (h : I m σ) : turnEnd I Q .next m σ := h
theorem turn_cont {I : Map → Sto → Prop} {Q : Flow → Map → Sto → Prop} {m : Map} {σ : Sto} (h : I m σ) : turnEnd I Q .cont m σ := h
theorem turn_brk {I : Map → Sto → Prop} {Q : Flow → Map → Sto → Prop} {m : Map} {σ : Sto} (h : Q .next m σ) : turnEnd I Q .brk m σ := h
theorem bot_elim {α : Type} {L : Addr} {s : Shared} {e : Value} {s' : Shared} {P : Prop} (p : PostW C.prog C.w C.h₀ C.A L σ s botE e s') : P := by
  obtain ⟨_, _, _, _, _, _, _, f⟩ := p
  exact f.elim
theorem St.but {h₁ h h' : Heap} {m' : Map} {σ' : Sto} {I : Addr} (st : C.S h m' σ') (hσ : σ' I = none) (hIs : ∀ o vs, h.get? I = some o → o.data = .fields vs → vs.size < 6) (hIf : ∀ l env L', C.A.frames = some l → env ∈ l → env.frame = some L' → L' ≠ I) (hb : C.h₀.objs.size ≤ I) (hL : C.env.locals ≠ I)
    (kk : ∀ b ob, b ≠ I → h.get? b = some ob → h'.get? b = some ob) : C.S h' m' σ' := by
  have σne : ∀ a x, σ' a = some x → a ≠ I := fun a x e q => by rw [q, hσ] at e; cases e
  refine { keep := fun b ob e => kk b ob ?_ (st.keep b ob e), obj := fun a x e => ?_, old := st.old, hand := ?_, fr := ?_, big := ?_, ns := ?_, off := st.off, above := st.above }
  · intro q
    exact absurd (Heap.lt_size e) (by rw [q]; exact Nat.not_lt.mpr hb)
  · obtain ⟨ob, g, is⟩ := st.obj a x e
    exact ⟨ob, kk a ob (σne a x e) g, is⟩
  · exact HOk.move st.hand fun a ob vs g n d z => ⟨kk a ob (fun q => by subst q; have := hIs ob vs g d; omega) g, n⟩
  · obtain ⟨l, hl, k⟩ := st.fr
    refine ⟨l, hl, fun env he => ?_⟩
    obtain ⟨km, L', ob, es, n, hf, g, d, b, nn⟩ := k env he
    exact ⟨km, L', ob, es, n, hf, kk L' ob (hIf l env L' hl he hf) g, d, b, nn⟩
  · obtain ⟨mc, hns, _⟩ := st.ns
    obtain ⟨oL, _, _, hoL, _⟩ := hns
    exact Nat.le_of_lt (Nat.lt_of_le_of_lt st.above (Heap.lt_size (kk _ _ hL hoL)))
  · obtain ⟨mc, hns, hm⟩ := st.ns
    exact ⟨mc, ns_keeps hns fun o ho => kk _ o hL ho, hm⟩
theorem Small.of {h : Heap} {I : Addr} (x : ∃ o, h.get? I = some o ∧ Small o) : ∀ o vs, h.get? I = some o → o.data = .fields vs → vs.size < 6 := fun o vs g d => by
  obtain ⟨o', g', vs', d', z⟩ := x
  rw [g] at g'
  cases g'
  rw [d] at d'
  cases d'
  exact z
theorem Small.nodict {o : Obj} (x : Small o) : ∀ es n, o.data ≠ .dict es n := let ⟨_, d, _⟩ := x; Mine.nodict d
theorem St.frI {s : Heap} (st : C.S s m σ) {I : Addr} (hI : s.objs.size ≤ I) : ∀ l env L', C.A.frames = some l → env ∈ l → env.frame = some L' → L' ≠ I := by
  intro l env L' e he hf q
  obtain ⟨l', hl, k⟩ := st.fr
  rw [hl] at e
  cases e
  obtain ⟨_, L2, ob, es, n, hf2, g, _⟩ := k env he
  rw [hf2] at hf
  cases hf
  exact absurd (Heap.lt_size g) (by rw [q]; exact Nat.not_lt.mpr hI)
inductive ForSt (C : Cx) (I : Addr) (N : Nat) (G : Nat → Heap → Prop) (Inv : Nat → Map → Sto → Prop) (σ : Sto) (s₀ : Shared) (k : Nat) (s' : Shared) : Prop
  | mk (i : Nat) (m' : Map) (σ' : Sto) (h : Heap) (tk : Nat) (e : s' = { s₀ with heap := h, toks := tk }) (hk : k = N + 1 - i) (hi : i ≤ N) (st : C.S h m' σ') (o : Out C.env.locals σ s₀.heap σ' h) (nI : σ' I = none) (g : G i h) (inv : Inv i m' σ') : ForSt C I N G Inv σ s₀ k s'
theorem for_code {tgt : Expr} {body : List Stmt} {I : Addr} {vs : List Value} {src : Sto → Prop} {G : Nat → Heap → Prop} {Inv : Nat → Map → Sto → Prop} {Q : Flow → Map → Sto → Prop} {s₀ : Shared} {h₁ : Heap} {t₁ : Nat}
    (W : Itr C.prog C.w C.h₀ C.A I vs src G) (st0 : C.S s₀.heap m σ) (hI : s₀.heap.objs.size ≤ I)
    (hst : C.S h₁ m σ) (ho : Out C.env.locals σ s₀.heap σ h₁) (hG : G 0 h₁) (h0 : Inv 0 m σ) (hsrc : ∀ i m σ, Inv i m σ → src σ)
    (turn : ∀ i v m₁ σ₁ v', vs[i]? = some v → Inv i m₁ σ₁ → er v' = v → C.bot.W (assign tgt C.env v') (fun _ m₂ σ₂ => C.bot.W (execs body C.env) (turnEnd (Inv (i + 1)) Q) m₂ σ₂) m₁ σ₁)
    (done : ∀ m₁ σ₁, Inv vs.length m₁ σ₁ → Q .next m₁ σ₁) (ht : ∀ v, letOwnedTupleGo tgt (.ref I) v = pure ()) :
    codeAny (model C.prog C.w) C.A (.forLoop tgt (.ref I) body [] C.env) (fun r s' => match r with
      | .ok f => PostW C.prog C.w C.h₀ C.A C.env.locals σ s₀ Q f s'
      | .error e => False) { s₀ with heap := h₁, toks := t₁ } := by
  have hσI : σ I = none := st0.fresh hI
  have hIf := st0.frI hI
  have hL : C.env.locals ≠ I := Nat.ne_of_lt (Nat.lt_of_lt_of_le st0.lt hI)
  have hb : C.h₀.objs.size ≤ I := Nat.le_trans st0.big hI
  have fr : ∀ b ob, s₀.heap.get? b = some ob → b ≠ I := fun b ob e q => absurd (Heap.lt_size e) (by rw [q]; exact Nat.not_lt.mpr hI)
  refine codeAny_forLoop
    (ForSt C I vs.length G Inv σ s₀) ?_ (vs.length + 1)
    ⟨0, m, σ, h₁, t₁, rfl, rfl, Nat.zero_le _, hst, ho, hσI, hG, h0⟩ ht
  rintro k s' ⟨i, m', σ', h, tk, rfl, rfl, hi, st, o, hσI', hG', hInv⟩
  have next : ∀ h' : Heap, (∀ b ob, b ≠ I → h.get? b = some ob → h'.get? b = some ob) → C.S h' m' σ' ∧ Out C.env.locals σ s₀.heap σ' h' := fun h' kk =>
    ⟨st.but (h₁ := h) hσI' (Small.of (W.live _ _ hG')) hIf hb hL kk, fun b ob e n ne => let ⟨e', n'⟩ := o b ob e n ne; ⟨e'.then fun o' eo => kk b o' (fr b ob e) eo, n'⟩⟩
  by_cases hlt : i < vs.length
  · obtain ⟨v, hv⟩ : ∃ v, vs[i]? = some v := ⟨_, List.getElem?_eq_getElem hlt⟩
    refine W.item i v _ σ' _ _ hv (hsrc _ _ _ hInv) st.toRep hG' fun v' h' tk' ev hG'' hs' => ?_
    obtain ⟨st', o'⟩ := next h' fun b ob hb e => (hs'.2 b hb).trans e
    refine wpAny_mono (turn i v m' σ' v' hv hInv ev { s₀ with heap := h', toks := tk' } st') (fun _ s₂ p => ?_) fun _ _ p => bot_elim (α := Unit) p
    obtain ⟨m₂, σ₂, h₂, t₂, rfl, st₂, o₂, q⟩ := p
    refine wpAny_mono (q _ st₂) (fun f s₃ p => ?_) fun _ _ p => bot_elim (α := Unit) p
    obtain ⟨m₃, σ₃, h₃, t₃, rfl, st₃, o₃, q⟩ := p
    obtain ⟨oI, hoI, hndI⟩ := W.live _ _ hG''
    have o23 := o₂.trans o₃
    obtain ⟨eI, nI⟩ := o23 I oI hoI hσI' (Ne.symm hL)
    have eI := eI.exact hndI.nodict
    have oo : Out C.env.locals σ s₀.heap σ₃ h₃ := o'.trans o23
    have again : Inv (i + 1) m₃ σ₃ → ∃ k', k' < vs.length + 1 - i ∧ ForSt C I vs.length G Inv σ s₀ k' { s₀ with heap := h₃, toks := t₃ } := fun hJ =>
      ⟨vs.length + 1 - (i + 1), stepLt2 hlt, i + 1, m₃, σ₃, h₃, t₃, rfl, rfl, hlt, st₃, oo, nI, W.keep _ _ _ hG'' (fun ob e => by rw [hoI] at e; cases e; exact eI), hJ⟩
    cases f with
    | next => exact again q
    | cont => exact again q
    | brk => exact ⟨m₃, σ₃, h₃, t₃, rfl, st₃, oo, q⟩
    | ret r => exact ⟨m₃, σ₃, h₃, t₃, rfl, st₃, oo, q⟩
  · have hin : i = vs.length := by omega
    subst hin
    refine W.done _ σ' _ _ (hsrc _ _ _ hInv) st.toRep hG' fun h' he' => wpAny_execs_nil ?_
    obtain ⟨st', o'⟩ := next h' he'
    exact ⟨m', σ', h', tk, rfl, st', o', done _ _ hInv⟩
def loopOver (C : Cx) (tgt : Expr) (body : List Stmt) (xv : Value) (Q : Flow → Map → Sto → Prop) (m : Map) (σ : Sto) : Prop :=
  ∃ (vs : List Value) (src : Sto → Prop) (Inv : Nat → Map → Sto → Prop), Iters C.prog C.w C.h₀ C.A xv vs src ∧ Inv 0 m σ ∧ (∀ i m σ, Inv i m σ → src σ) ∧
    (∀ i v m₁ σ₁ v', vs[i]? = some v → Inv i m₁ σ₁ → er v' = v → C.bot.W (assign tgt C.env v') (fun _ m₂ σ₂ => C.bot.W (execs body C.env) (turnEnd (Inv (i + 1)) Q) m₂ σ₂) m₁ σ₁) ∧
    (∀ m₁ σ₁, Inv vs.length m₁ σ₁ → Q .next m₁ σ₁)
@[reducible] noncomputable def k_s_forT1 (C : Cx) (tgt : Expr) (body : List Stmt) (Q : Flow → Map → Sto → Prop) := fun (xv : Value) (m₁ : Map) (σ₁ : Sto) => loopOver C tgt body xv Q m₁ σ₁
theorem s_forT {tgt iter : Expr} {body : List Stmt} {pos : Pos} {Q : Flow → Map → Sto → Prop} (h : C.V (eval iter C.env) (k_s_forT1 C tgt body Q) m σ)
    (ht : ∀ it v, letOwnedTupleGo tgt (.ref it) v = pure ()) (hs : ∀ x, foldedSetIterable iter C.env x = pure x := by intro _; rfl) : C.W (exec (.For tgt iter body [] pos) C.env) Q m σ := by
  intro s st
  refine wpAny_For (wpAny_mono (h s st) (fun xv s₁ p => ?_) fun _ _ e => e) hs
  obtain ⟨m₁, σ₁, h₁, t₁, rfl, st₁, o₁, vs, src, Inv, hit, h0, hsrc, turn, done⟩ := p
  refine hit { s with heap := h₁, toks := t₁ } σ₁ xv _ _ rfl (hsrc _ _ _ h0) st₁.toRep fun G h' W hG kk => ?_
  obtain ⟨st', o'⟩ := st₁.grown kk
  have z := for_code (s₀ := { s with heap := h₁, toks := t₁ }) (t₁ := t₁) W st₁ (Nat.le_refl _) st' o' hG h0 hsrc turn done (ht _)
  refine codeAny_mono z fun r s' q => ?_
  cases r with
  | ok f => exact PostW.trans o₁ q
  | error e => exact q.elim
theorem tgt_name {x : Str} {p : Pos} {v v' : Value} {Q : Unit → Map → Sto → Prop} (e : er v' = v) (h : put1 C x v (Q ()) m σ) : C.W (assign (.Name x p) C.env v') Q m σ :=
  fun s st => wpAny_assign_Name (wpAny_mono (h v' e s st) (fun _ _ p => p) fun _ _ p => p)
@[reducible] noncomputable def k_s_for1 (C : Cx) (body : List Stmt) (Inv : Nat → Map → Sto → Prop) (i : Nat) (Q : Flow → Map → Sto → Prop) := fun (m₂ : Map) (σ₂ : Sto) => C.bot.W (execs body C.env) (turnEnd (Inv (i + 1)) Q) m₂ σ₂
@[reducible] noncomputable def k_s_for2 (C : Cx) (x : Str) (body : List Stmt) (Q : Flow → Map → Sto → Prop) := fun (xv : Value) (m₁ : Map) (σ₁ : Sto) => ∃ (vs : List Value) (src : Sto → Prop) (Inv : Nat → Map → Sto → Prop),
      Iters C.prog C.w C.h₀ C.A xv vs src ∧ Inv 0 m₁ σ₁ ∧ (∀ i m σ, Inv i m σ → src σ) ∧
      (∀ i v m₁ σ₁, vs[i]? = some v → Inv i m₁ σ₁ → put1 C.bot x v (k_s_for1 C body Inv i Q) m₁ σ₁) ∧
      (∀ m₁ σ₁, Inv vs.length m₁ σ₁ → Q .next m₁ σ₁)
theorem s_for {x : Str} {p : Pos} {iter : Expr} {body : List Stmt} {pos : Pos} {Q : Flow → Map → Sto → Prop} (h : C.V (eval iter C.env) (k_s_for2 C x body Q) m σ)
    (hs : ∀ x, foldedSetIterable iter C.env x = pure x := by intro _; rfl) : C.W (exec (.For (.Name x p) iter body [] pos) C.env) Q m σ := by
  refine s_forT (WE.mono1 h fun xv m₁ σ₁ q => ?_) (fun _ _ => rfl) hs
  obtain ⟨vs, src, Inv, a, b, c, d, e⟩ := q
  exact ⟨vs, src, Inv, a, b, c, fun i v m₁ σ₁ v' hv hI hv' => tgt_name (C := C.bot) hv' (d i v m₁ σ₁ hv hI), e⟩
@[reducible] noncomputable def k_s_whileE1 (n) (Inv : Nat → Map → Sto → Prop) := fun (m₃ : Map) (σ₃ : Sto) => ∃ k, k < n ∧ Inv k m₃ σ₃
@[reducible] noncomputable def k_s_whileE2 (C : Cx) (body : List Stmt) (n) (Inv : Nat → Map → Sto → Prop) (Q : Flow → Map → Sto → Prop) (orelse : List Stmt) := fun (b : Bool) (m₂ : Map) (σ₂ : Sto) => if b then C.bot.W (execs body C.env) (turnEnd (k_s_whileE1 n Inv) Q) m₂ σ₂ else C.bot.W (execs orelse C.env) Q m₂ σ₂
theorem s_whileE {test : Expr} {body orelse : List Stmt} {pos : Pos} {Q : Flow → Map → Sto → Prop} (Inv : Nat → Map → Sto → Prop) (n : Nat) (h0 : Inv n m σ)
    (turn : ∀ n m₁ σ₁, Inv n m₁ σ₁ → C.bot.W (isTrue test C.env (eval test C.env)) (k_s_whileE2 C body n Inv Q orelse) m₁ σ₁) :
    C.W (exec (.While test body orelse pos) C.env) Q m σ := by
  intro s st
  refine wpAny_While (codeAny_mono (codeAny_whileLoop (R := fun r s' => match r with
      | .ok f => PostW C.prog C.w C.h₀ C.A C.env.locals σ s Q f s'
      | .error e => False)
    (fun k s' => PostW C.prog C.w C.h₀ C.A C.env.locals σ s (fun (_ : Unit) => Inv k) () s') ?_ n ⟨m, σ, s.heap, s.toks, rfl, st, Out.refl _ _ _, h0⟩) fun r s' q => ?_)
  · rintro k s' ⟨m', σ', h, tk, rfl, st', o, hInv⟩
    refine wpAny_mono (turn k m' σ' hInv _ st') (fun b s₂ p => ?_) fun _ _ p => bot_elim (α := Unit) p
    obtain ⟨m₂, σ₂, h₂, t₂, rfl, st₂, o₂, q⟩ := p
    cases b with
    | false =>
      refine wpAny_mono (q _ st₂) (fun f s₃ p => ?_) fun _ _ p => bot_elim (α := Unit) p
      obtain ⟨m₃, σ₃, h₃, t₃, rfl, st₃, o₃, q⟩ := p
      exact ⟨m₃, σ₃, h₃, t₃, rfl, st₃, (o.trans o₂).trans o₃, q⟩
    | true =>
      refine wpAny_mono (q _ st₂) (fun f s₃ p => ?_) fun _ _ p => bot_elim (α := Unit) p
      obtain ⟨m₃, σ₃, h₃, t₃, rfl, st₃, o₃, q⟩ := p
      have oo := (o.trans o₂).trans o₃
      cases f with
      | next => obtain ⟨k', hk, q⟩ := q; exact ⟨k', hk, m₃, σ₃, h₃, t₃, rfl, st₃, oo, q⟩
      | cont => obtain ⟨k', hk, q⟩ := q; exact ⟨k', hk, m₃, σ₃, h₃, t₃, rfl, st₃, oo, q⟩
      | brk => exact ⟨m₃, σ₃, h₃, t₃, rfl, st₃, oo, q⟩
      | ret r => exact ⟨m₃, σ₃, h₃, t₃, rfl, st₃, oo, q⟩
  · cases r with
    | ok f => exact q
    | error e => exact q.elim
@[reducible] noncomputable def k_s_while1 (n) (Inv : Nat → Map → Sto → Prop) := fun (m₃ : Map) (σ₃ : Sto) => ∃ k, k < n ∧ Inv k m₃ σ₃
@[reducible] noncomputable def k_s_while2 (C : Cx) (body : List Stmt) (n) (Inv : Nat → Map → Sto → Prop) (Q : Flow → Map → Sto → Prop) := fun (b : Bool) (m₂ : Map) (σ₂ : Sto) => if b then C.bot.W (execs body C.env) (turnEnd (k_s_while1 n Inv) Q) m₂ σ₂ else Q .next m₂ σ₂
theorem s_while {test : Expr} {body : List Stmt} {pos : Pos} {Q : Flow → Map → Sto → Prop} (Inv : Nat → Map → Sto → Prop) (n : Nat) (h0 : Inv n m σ)
    (turn : ∀ n m₁ σ₁, Inv n m₁ σ₁ → C.bot.W (isTrue test C.env (eval test C.env)) (k_s_while2 C body n Inv Q) m₁ σ₁) :
    C.W (exec (.While test body [] pos) C.env) Q m σ := s_whileE Inv n h0 fun n m₁ σ₁ h => (turn n m₁ σ₁ h).mono1 fun b _ _ q => match b, q with
  | true, q => q
  | false, q => s_nil (C := C.bot) q
end
end
section
@[reducible] def Cx.comp (C : Cx) (scope : Scope) (cl : List (Str × Addr)) (Cl : Addr) : Cx := { C with env := compEnvC scope cl Cl C.env, E := botE }
section
variable {C : Cx} {m : Map} {σ : Sto}
def ifsRun (C : Cx) (ifs : List Expr) : Sem Bool := forIn ifs true fun c r => if r = true then do let ok ← isTrue c C.env (eval c C.env); pure (ForInStep.yield ok) else pure (ForInStep.yield r)
theorem ifs_nil {K : Bool → Map → Sto → Prop} (h : K true m σ) : C.W (ifsRun C []) K m σ := by
  unfold ifsRun
  rw [List.forIn_nil]
  exact WE.pure h
theorem ifs_one {t : Expr} {K : Bool → Map → Sto → Prop} (h : C.W (isTrue t C.env (eval t C.env)) K m σ) : C.W (ifsRun C [t]) K m σ := by
  unfold ifsRun
  rw [List.forIn_cons]
  refine WE.bind ?_
  simp only [if_true]
  refine WE.bind (WE.mono1 h fun b _ _ q => WE.pure ?_)
  simp only
  rw [List.forIn_nil]
  exact WE.pure q
def gathers (C : Cx) (scope : Scope) (cl : List (Str × Addr)) (x : Str) (ifs : List Expr) (elt : Expr) (xv : Value) (Q : List Value → Sto → Prop) (σ : Sto) : Prop :=
  ∃ (vs : List Value) (src : Sto → Prop) (J : Nat → List Value → Sto → Prop), Iters C.prog C.w C.h₀ C.A xv vs src ∧ vs.length ≤ sizeLine ∧ J 0 [] σ ∧ (∀ i acc σ, J i acc σ → src σ) ∧
    (∀ Cl i v acc σ₂ mc, vs[i]? = some v → J i acc σ₂ → acc.length ≤ i → (C.comp scope cl Cl).W (ifsRun (C.comp scope cl Cl) ifs) (fun ok m₃ σ₃ => if ok then (C.comp scope cl Cl).V (eval elt (C.comp scope cl Cl).env) (fun u m₄ σ₄ => J (i + 1) (acc ++ [u]) σ₄) m₃ σ₃ else J (i + 1) acc σ₃) (Map.set mc x v) σ₂) ∧
    (∀ acc σ₃, J vs.length acc σ₃ → Q acc σ₃)
inductive CompSt (C : Cx) (I D : Addr) (N : Nat) (G : Nat → Heap → Prop) (J : Nat → List Value → Sto → Prop) (σ : Sto) (s : Shared) (k : Nat) (s' : Shared) : Prop
  | mk (i : Nat) (mc : Map) (σ' : Sto) (h : Heap) (tk : Nat) (ys : Array Value) (e : s' = { s with heap := h, toks := tk }) (hk : k = N + 1 - i) (hi : i ≤ N) (st : C.S h mc σ') (o : OutC σ s.heap σ' h) (nI : σ' I = none) (nD : σ' D = none)
    (pl : h.PlainList D ys) (hy : ys.size ≤ i) (g : G i h) (j : J i (ys.toList.map er) σ') : CompSt C I D N G J σ s k s'
theorem comp_core {elt iter : Expr} {x : Str} {px : Pos} {ifs : List Expr} {scope : Scope} {cl : List (Str × Addr)} {pos : Pos} {xv : Value} {Q : List Value → Sto → Prop} {RR : Value → Env → Result → Shared → Prop} {s : Shared} {E' : Value → Shared → Prop}
    (hcell : ∀ y ∈ scope.names, y.2 ≠ .cell) (hkind : scope.kind = .function) (hx : scope.names.lookup x = some .local) (st : C.S s.heap m σ) (hg : gathers C scope cl x ifs elt xv Q σ) (xv' : Value) (hxv : er xv' = xv)
    (hRR : ∀ D Cl h tk mc σ' ys, s.heap.objs.size ≤ D → s.heap.objs.size ≤ Cl → D ≠ Cl → h.Ns Cl mc → Rep C.prog C.w C.h₀ C.A h σ' → OutC σ s.heap σ' h → σ' Cl = none → σ' D = none → h.PlainList D ys → Q (ys.toList.map er) σ' →
      RR (.ref D) (compEnvC scope cl Cl C.env) (.ok .next) { s with heap := h, toks := tk }) :
    wpAny (model C.prog C.w) C.A (pyIter xv') (fun it s₂ => wpAny (model C.prog C.w) C.A (newList []) (fun acc s₃ =>
      wpAny (model C.prog C.w) C.A (newFunctionEnv scope C.env.globals cl [] C.env.qual none .none (some C.env)) (fun cenv s₄ =>
        codeAny (model C.prog C.w) C.A (.compStart (.ListComp elt [⟨.Name x px, iter, ifs, 0⟩] scope pos) 0 it acc { cenv with scope := relabel scope C.env }) (RR acc { cenv with scope := relabel scope C.env }) s₄) E' s₃) E' s₂) E' s := by
  obtain ⟨vs, src, J, hit, hsz, h0, hsrc, turn, done⟩ := hg
  refine hit s σ xv' _ _ hxv (hsrc _ _ _ h0) st.toRep fun G h₁ W hG kk₁ => ?_
  refine wpAny_newObj_type ?_
  refine wpAny_newFunctionEnv hcell (by intro y hy; simp at hy) (fun h₂ hns₂ hsb₂ => ?_) hkind
  dsimp only at hns₂ hsb₂ ⊢
  generalize hH : h₁.push { cls := .type "list", dict := none, data := .seq ([] : List Value).toArray } = H at hns₂ hsb₂ ⊢
  have sI : s.heap.objs.size < h₁.objs.size := by
    obtain ⟨o, ho, _⟩ := W.live _ _ hG
    exact Heap.lt_size ho
  have hC : H.objs.size = h₁.objs.size + 1 := by rw [← hH, Heap.size_push]
  let D := h₁.objs.size
  let Cl := H.objs.size
  have hDC : D ≠ Cl := by show h₁.objs.size ≠ H.objs.size; rw [hC]; exact Nat.ne_of_lt (Nat.lt_succ_self _)
  have old : ∀ b o, h₁.get? b = some o → h₂.get? b = some o := fun b o e =>
    (hsb₂.2 b (by have := Heap.lt_size e; rw [hC]; exact Nat.ne_of_lt (Nat.lt_succ_of_lt this))).trans (Heap.get?_push_of_some _ (hH ▸ Heap.get?_push_of_some _ e))
  have old0 : ∀ b o, s.heap.get? b = some o → h₂.get? b = some o := fun b o e => old b o (kk₁ b o e)
  have hD0 : s.heap.objs.size ≤ D := Nat.le_of_lt sI
  have hCl0 : s.heap.objs.size ≤ Cl := by show s.heap.objs.size ≤ H.objs.size; rw [hC]; exact Nat.le_of_lt (Nat.lt_succ_of_lt sI)
  have ne0 : ∀ {a : Addr}, s.heap.objs.size ≤ a → ∀ b o, s.heap.get? b = some o → b ≠ a := fun ha b o e q => absurd (Heap.lt_size e) (by rw [q]; exact Nat.not_lt.mpr ha)
  have hacc : h₂.PlainList D #[] := ⟨_, (hsb₂.2 D hDC).trans (Heap.get?_push_of_some _ (hH ▸ Heap.get?_push_size _ rfl))⟩
  have σD : σ D = none := st.fresh hD0
  have σC : σ Cl = none := st.fresh hCl0
  have σI : σ s.heap.objs.size = none := st.fresh (Nat.le_refl _)
  have IneC : s.heap.objs.size ≠ Cl := by show s.heap.objs.size ≠ H.objs.size; rw [hC]; exact Nat.ne_of_lt (Nat.lt_succ_of_lt sI)
  have IneD : s.heap.objs.size ≠ D := Nat.ne_of_lt sI
  have hIf := st.frI (I := s.heap.objs.size) (Nat.le_refl _)
  have hb : C.h₀.objs.size ≤ s.heap.objs.size := st.big
  let C' := C.comp scope cl Cl
  have st₂ : C'.S h₂ (fun _ => none) σ :=
    { keep := fun b ob e => old0 b ob (st.keep b ob e), obj := fun a y e => let ⟨ob, g, i⟩ := st.obj a y e; ⟨ob, old0 _ _ g, i⟩, old := st.old, hand := st.hand.outC (fun b ob e n => ⟨.of (old0 b ob e), n⟩), fr := st.fr.outC (fun b ob e n => ⟨.of (old0 b ob e), n⟩)
      big := Nat.le_trans hb (Nat.le_of_lt (Nat.lt_of_le_of_lt hCl0 hns₂.lt)), ns := ⟨_, hns₂, fun y => by simp⟩, off := σC, above := Nat.le_trans hb hCl0 }
  have loop : codeAny (model C.prog C.w) C.A (.compLoop (.ListComp elt [⟨.Name x px, iter, ifs, 0⟩] scope pos) 0 (.ref s.heap.objs.size) (.ref D) (compEnvC scope cl Cl C.env)) (RR (.ref D) (compEnvC scope cl Cl C.env)) { s with heap := h₂, toks := s.toks + ([] : List (Str × Value)).length } := by
    refine codeAny_compLoop_tests
      (CompSt C' s.heap.objs.size D vs.length G J σ s) ?_ (vs.length + 1)
      ⟨0, _, σ, h₂, _, #[], rfl, rfl, Nat.zero_le _, st₂, fun b ob e n => ⟨.of (old0 b ob e), n⟩, σI, σD, hacc, Nat.le_refl _, W.keep _ _ _ hG (fun o e => old _ o e), h0⟩
    rintro k s' ⟨i, mc, σ', h, tk, ys, rfl, rfl, hi, st', o, nI, nD, hpl, hys, hG', hJ⟩
    have hClI : C'.env.locals ≠ s.heap.objs.size := Ne.symm IneC
    have next : ∀ h' : Heap, (∀ b ob, b ≠ s.heap.objs.size → h.get? b = some ob → h'.get? b = some ob) → C'.S h' mc σ' ∧ OutC σ s.heap σ' h' ∧ h'.PlainList D ys := fun h' kk =>
      ⟨st'.but (h₁ := h) nI (Small.of (W.live _ _ hG')) hIf hb hClI kk, fun b ob e n => let ⟨e', n'⟩ := o b ob e n; ⟨e'.then fun o' eo => kk b o' (ne0 (Nat.le_refl _) b ob e) eo, n'⟩, let ⟨n, g⟩ := hpl; ⟨n, kk _ _ (Ne.symm IneD) g⟩⟩
    by_cases hlt : i < vs.length
    · obtain ⟨v, hv⟩ : ∃ v, vs[i]? = some v := ⟨_, List.getElem?_eq_getElem hlt⟩
      refine W.item i v _ σ' _ _ hv (hsrc _ _ _ hJ) st'.toRep hG' fun v' h' tk' ev hG'' hs' => ?_
      obtain ⟨st₃, o₃, pl₃⟩ := next h' fun b ob hb e => (hs'.2 b hb).trans e
      have T := turn Cl i v (ys.toList.map er) σ' mc hv hJ (by rw [List.length_map, Array.length_toList]; exact hys)
      refine wpAny_mono (tgt_name (C := C') (p := px) (m := mc) (σ := σ') (Q := fun _ m₂ σ₂ => σ₂ = σ' ∧ m₂ = Map.set mc x v) ev (put_local (C := C') (Q := fun m₂ σ₂ => σ₂ = σ' ∧ m₂ = Map.set mc x v) ⟨rfl, rfl⟩ (show C'.env.kindOf x = some .local from lookup_relabel_local hx) (show C'.env.scope.kind = .function from hkind)) { s with heap := h', toks := tk' } st₃) (fun _ s₄ p => ?_) fun _ _ p => bot_elim (α := Unit) p
      obtain ⟨m₄, σ₄, h₄, t₄, rfl, st₄, o₄, rfl, rfl⟩ := p
      refine wpAny_mono (T _ st₄) (fun ok s₅ p => ?_) fun _ _ p => bot_elim (α := Unit) p
      obtain ⟨m₅, σ₅, h₅, t₅, rfl, st₅, o₅, q⟩ := p
      -- what the turn's runs leave
      have o45 := o₄.trans o₅
      have fin : ∀ {m₆ : Map} {σ₆ : Sto} {h₆ : Heap} {t₆ : Nat}, C'.S h₆ m₆ σ₆ → Out Cl σ₄ h' σ₆ h₆ → OutC σ s.heap σ₆ h₆ ∧ σ₆ s.heap.objs.size = none ∧ σ₆ D = none ∧ h₆.PlainList D ys ∧ G (i + 1) h₆ := by
        intro m₆ σ₆ h₆ t₆ st₆ o₆
        obtain ⟨oI, hoI, hndI⟩ := W.live _ _ hG''
        obtain ⟨nn, gD⟩ := pl₃
        obtain ⟨eI, nI'⟩ := o₆ _ oI hoI nI IneC
        obtain ⟨eD, nD'⟩ := o₆ _ _ gD nD hDC
        have eI := eI.exact hndI.nodict
        have eD := eD.exact (fun es n q => nomatch q)
        refine ⟨fun b ob e n => ?_, nI', nD', ⟨nn, eD⟩, W.keep _ _ _ hG'' fun ob e => by rw [hoI] at e; cases e; exact eI⟩
        obtain ⟨⟨sl, e', q'⟩, n'⟩ := o₃ b ob e n
        obtain ⟨⟨sl2, e2, q2⟩, n2⟩ := o₆ b _ e' n' (ne0 hCl0 b ob e)
        exact ⟨⟨sl2, e2, fun c => (q2 c).trans (q' c)⟩, n2⟩
      cases ok with
      | false =>
        simp only [Bool.false_eq_true, if_false] at q ⊢
        obtain ⟨a1, a2, a3, a4, a5⟩ := fin (t₆ := t₅) st₅ o45
        exact ⟨vs.length + 1 - (i + 1), stepLt2 hlt, i + 1, m₅, σ₅, h₅, t₅, ys, rfl, rfl, hlt, st₅, a1, a2, a3, a4, Nat.le_succ_of_le hys, a5, q⟩
      | true =>
        simp only [if_true] at q ⊢
        refine wpAny_mono (q _ st₅) (fun u s₆ p => ?_) fun _ _ p => bot_elim (α := Unit) p
        obtain ⟨m₆, σ₆, h₆, t₆, rfl, st₆, o₆, q⟩ := p
        obtain ⟨a1, a2, a3, a4, a5⟩ := fin (t₆ := t₆) st₆ (o45.trans o₆)
        refine wpAny_list_append_plain (hsz := by omega) a4 fun h₇ hl₇ hs₇ => ?_
        have kk₇ : ∀ b ob, b ≠ D → h₆.get? b = some ob → h₇.get? b = some ob := fun b ob hb e => (hs₇.2 b hb).trans e
        have st₇ : C'.S h₇ m₆ σ₆ := st₆.but (h₁ := h₆) a3 (fun o vs g d => by obtain ⟨n, g'⟩ := a4; rw [g'] at g; cases g; cases d) (st.frI hD0) (Nat.le_trans hb hD0) (Ne.symm hDC) kk₇
        refine ⟨vs.length + 1 - (i + 1), stepLt2 hlt, i + 1, m₆, σ₆, h₇, t₆, ys.push u, rfl, rfl, hlt, st₇, fun b ob e n => ?_, a2, a3, hl₇, by rw [Array.size_push]; omega, ?_, ?_⟩
        · obtain ⟨e', n'⟩ := a1 b ob e n
          exact ⟨e'.then fun o' eo => kk₇ b o' (ne0 hD0 b ob e) eo, n'⟩
        · exact W.keep _ _ _ a5 fun ob e => kk₇ _ ob IneD e
        · rw [Array.toList_push, List.map_append]
          exact q
    · have hin : i = vs.length := by omega
      subst hin
      refine W.done _ σ' _ _ (hsrc _ _ _ hJ) st'.toRep hG' fun h' he' => ?_
      obtain ⟨st₃, o₃, pl₃⟩ := next h' he'
      obtain ⟨mc', hmc, _⟩ := st₃.ns
      exact hRR D Cl h' tk mc' σ' ys hD0 hCl0 hDC hmc st₃.toRep o₃ st₃.off nD pl₃ (done _ _ hJ)
  exact codeAny_compStart_list loop (W.self 0 _ _ _ (W.keep _ _ _ hG (fun o e => old _ o e)) loop)
theorem comp_out {s : Shared} {h h' : Heap} {σ' : Sto} {D Cl : Addr} {ys : Array Value} (st : C.S s.heap m σ) (hD : s.heap.objs.size ≤ D) (hCl : s.heap.objs.size ≤ Cl) (hDC : D ≠ Cl) (rep : Rep C.prog C.w C.h₀ C.A h σ') (o : OutC σ s.heap σ' h) (nC : σ' Cl = none) (nD : σ' D = none)
    (pl : h.PlainList D ys) (hs : Heap.SameBut Cl h h') : C.S h' m (σ'.upd D (.list (ys.toList.map er))) ∧ Out C.env.locals σ s.heap (σ'.upd D (.list (ys.toList.map er))) h' := by
  have ne0 : ∀ {a : Addr}, s.heap.objs.size ≤ a → ∀ b o, s.heap.get? b = some o → b ≠ a := fun ha b o e q => absurd (Heap.lt_size e) (by rw [q]; exact Nat.not_lt.mpr ha)
  obtain ⟨nn, gD⟩ := pl
  have oo : Out C.env.locals σ s.heap (σ'.upd D (.list (ys.toList.map er))) h' := fun b ob e n _ => by
    obtain ⟨e', n'⟩ := o b ob e n
    exact ⟨e'.then fun o' eo => (hs.2 b (ne0 hCl b ob e)).trans eo, by rw [Sto.upd_ne (ne0 hD b ob e)]; exact n'⟩
  obtain ⟨mc, hns, hm⟩ := st.ns
  obtain ⟨oL, _, _, hoL, _⟩ := id hns
  have oL' := o _ oL hoL st.off
  refine ⟨st.next (fun b ob e0 e => (hs.2 b (ne0 hCl b ob e)).trans (rep.keep b ob e0)) oo ⟨mc, Kp.ns hns fun ob e => (o _ ob e st.off).1.then fun o' eo => (hs.2 _ (ne0 hCl _ ob e)).trans eo, hm⟩ ?_ (fun a y e => ?_) fun a e => ?_, oo⟩
  · rw [Sto.upd_ne (ne0 hD _ oL hoL)]; exact oL'.2
  · by_cases q : a = D
    · subst q
      rw [Sto.upd_same] at e
      cases e
      exact ⟨_, (hs.2 _ hDC).trans gD, ys, nn, rfl, rfl⟩
    · rw [Sto.upd_ne q] at e
      obtain ⟨ob, g, i⟩ := rep.obj a y e
      exact ⟨ob, (hs.2 a (by rintro rfl; rw [nC] at e; cases e)).trans g, i⟩
  · by_cases q : a = D
    · subst q; exact Nat.le_trans st.big hD
    · rw [Sto.upd_ne q] at e
      exact rep.old a e
@[reducible] noncomputable def k_v_comp1 (C : Cx) (scope : Scope) (cl : List (Str × Addr)) (x : Str) (ifs : List Expr) (elt : Expr) (Q : Value → Map → Sto → Prop) := fun (xv : Value) (m₁ : Map) (σ₁ : Sto) => gathers C scope cl x ifs elt xv (fun acc σ' => ∀ D, σ' D = none → Q (.ref D) m₁ (σ'.upd D (.list acc))) σ₁
theorem v_comp {elt iter : Expr} {x : Str} {px : Pos} {ifs : List Expr} {scope : Scope} {cl : List (Str × Addr)} {pos : Pos} {Q : Value → Map → Sto → Prop} (hclos : closureFor scope C.env = pure cl)
    (h : C.V (eval iter C.env) (k_v_comp1 C scope cl x ifs elt Q) m σ)
    (hcell : ∀ y ∈ scope.names, y.2 ≠ .cell := by decide) (hkind : scope.kind = .function := by rfl) (hnames : ∀ y ∈ scope.names, y.2 = .local → scope.names.lookup y.1 = some .local := by decide) (hx : scope.names.lookup x = some .local := by rfl)
    (hs : ∀ x, foldedSetIterable iter C.env x = pure x := by intro _; rfl) : C.V (eval (.ListComp elt [⟨.Name x px, iter, ifs, 0⟩] scope pos) C.env) Q m σ := by
  intro s st
  rw [eval_ListComp]
  refine wpAny_comprehension_free (use := none) rfl hs hclos hkind hnames (wpAny_mono (h s st) (fun xv s₁ p => ?_) fun _ _ e => e)
  obtain ⟨m₁, σ₁, h₁, t₁, rfl, st₁, o₁, q⟩ := p
  refine comp_core (RR := fun acc cenv r s' => compPost (model C.prog C.w) C.A (PostW C.prog C.w C.h₀ C.A C.env.locals σ s C.E) none (PostW C.prog C.w C.h₀ C.A C.env.locals σ s fun v m' σ' => Q (er v) m' σ') acc cenv.locals r s')
    (s := { s with heap := h₁, toks := t₁ }) hcell hkind hx st₁ q xv rfl ?_
  intro D Cl h' tk mc σ' ys hD hCl hDC hn rep o nC nD pl hq
  refine ⟨mc, hn, fun h'' hs'' => ?_⟩
  obtain ⟨st₂, o₂⟩ := comp_out (s := { s with heap := h₁, toks := t₁ }) st₁ hD hCl hDC rep o nC nD pl hs''
  exact ⟨m₁, _, h'', tk, rfl, st₂, o₁.trans o₂, hq D nD⟩
end
end
section
def S (l : List Nat) : Str := ⟨l.toArray⟩
def L (x : Str) : List Nat := x.cps.toList
@[simp] theorem L_S (l : List Nat) : L (S l) = l := rfl
@[simp] theorem S_L (x : Str) : S (L x) = x := rfl
theorem S_inj {a b : List Nat} (h : S a = S b) : a = b := by have := congrArg L h; simpa using this
theorem L_len (x : Str) : (L x).length = x.length := by simp [L, Str.length]
theorem op2_of {C : Cx} {f : Value → Value → Sem Value} {i j : Int} {Q : Value → Map → Sto → Prop} {m : Map} {σ : Sto} {r : Value} (h : Q r m σ)
    (k : ∀ t u (s : Shared) (Q' : Value → Shared → Prop) (E' : Value → Shared → Prop), (∀ v tk, er v = r → Q' v { s with toks := tk }) → wpAny (model C.prog C.w) C.A (f (.int i t) (.int j u)) Q' E' s) : op2 C f (.int i 0) (.int j 0) Q m σ := by
  intro a' b' ea eb
  obtain ⟨t, rfl⟩ := er_int ea
  obtain ⟨u, rfl⟩ := er_int eb
  exact WV.still r h fun s Q' E' _ q => k t u s Q' E' q
theorem op2s_of {C : Cx} {f : Value → Value → Sem Value} {x y : Str} {Q : Value → Map → Sto → Prop} {m : Map} {σ : Sto} {r : Value} (h : Q r m σ)
    (k : ∀ t u (s : Shared) (Q' : Value → Shared → Prop) (E' : Value → Shared → Prop), (∀ v tk, er v = r → Q' v { s with toks := tk }) → wpAny (model C.prog C.w) C.A (f (.str x t) (.str y u)) Q' E' s) : op2 C f (.str x 0) (.str y 0) Q m σ := by
  intro a' b' ea eb
  obtain ⟨t, rfl⟩ := er_str ea
  obtain ⟨u, rfl⟩ := er_str eb
  exact WV.still r h fun s Q' E' _ q => k t u s Q' E' q
section
variable {C : Cx} {m : Map} {σ : Sto} {Q : Value → Map → Sto → Prop} {i j : Int}
theorem o_add (h : Q (.int (i + j) 0) m σ) : op2 C (binaryOp .Add) (.int i 0) (.int j 0) Q m σ := op2_of h fun _ _ _ _ _ q => add_int (q _ _ rfl)
theorem o_sub (h : Q (.int (i - j) 0) m σ) : op2 C (binaryOp .Sub) (.int i 0) (.int j 0) Q m σ := op2_of h fun _ _ _ _ _ q => sub_int (q _ _ rfl)
theorem o_iadd (h : Q (.int (i + j) 0) m σ) : op2 C (inplaceOp .Add) (.int i 0) (.int j 0) Q m σ := op2_of h fun _ _ _ _ _ q => iadd_int (q _ _ rfl)
theorem o_isub (h : Q (.int (i - j) 0) m σ) : op2 C (inplaceOp .Sub) (.int i 0) (.int j 0) Q m σ := op2_of h fun _ _ _ _ _ q => isub_int (q _ _ rfl)
theorem o_mod (hj : j ≠ 0) (h : Q (.int (Int.fmod i j) 0) m σ) : op2 C (binaryOp .Mod) (.int i 0) (.int j 0) Q m σ := op2_of h fun _ _ _ _ _ q => mod_int hj (q _ _ rfl)
theorem o_and (h : Q (.int (Builtin.bitAnd i j) 0) m σ) : op2 C (binaryOp .BitAnd) (.int i 0) (.int j 0) Q m σ := op2_of h fun _ _ _ _ _ q => and_int (q _ _ rfl)
theorem o_or (h : Q (.int (Builtin.bitOr i j) 0) m σ) : op2 C (binaryOp .BitOr) (.int i 0) (.int j 0) Q m σ := op2_of h fun _ _ _ _ _ q => or_int (q _ _ rfl)
theorem o_shl (h0 : 0 ≤ j) (h1 : j ≤ 1000000) (h2 : i.natAbs < 2 ^ 64) (h : Q (.int (i * 2 ^ j.toNat) 0) m σ) : op2 C (binaryOp .LShift) (.int i 0) (.int j 0) Q m σ := op2_of h fun _ _ _ _ _ q => lshift_int_small h0 h1 h2 (q _ _ rfl)
theorem o_div (hj : j ≠ 0) (hp : Builtin.divisionGoesByPylong i j = false) (h : Q (.int (Int.fdiv i j) 0) m σ) : op2 C (binaryOp .FloorDiv) (.int i 0) (.int j 0) Q m σ :=
  op2_of h fun _ _ _ _ _ q => floordiv_int hj (q _ _ rfl) (.inl hp)
theorem o_eq (h : Q (.bool (i == j)) m σ) : op2 C (compareOp .Eq) (.int i 0) (.int j 0) Q m σ := op2_of h fun _ _ s _ _ q => eq_int (q _ s.toks rfl)
theorem o_ne (h : Q (.bool (i != j)) m σ) : op2 C (compareOp .NotEq) (.int i 0) (.int j 0) Q m σ := op2_of h fun _ _ s _ _ q => ne_int (q _ s.toks rfl)
theorem o_lt (h : Q (.bool (decide (i < j))) m σ) : op2 C (compareOp .Lt) (.int i 0) (.int j 0) Q m σ := op2_of h fun _ _ s _ _ q => lt_int (q _ s.toks rfl)
theorem o_le (h : Q (.bool (decide (i ≤ j))) m σ) : op2 C (compareOp .LtE) (.int i 0) (.int j 0) Q m σ := op2_of h fun _ _ s _ _ q => le_int (q _ s.toks rfl)
theorem o_ge (h : Q (.bool (decide (j ≤ i))) m σ) : op2 C (compareOp .GtE) (.int i 0) (.int j 0) Q m σ := op2_of h fun _ _ s _ _ q => ge_int (q _ s.toks rfl)
theorem o_neg (h : Q (.int (-i) 0) m σ) : op1 C (unaryOp .USub) (.int i 0) Q m σ := fun a' e => by
  obtain ⟨t, rfl⟩ := er_int e
  exact WV.still _ h fun s Q' E' _ q => neg_int (q _ _ rfl)
variable {x y : Str}
theorem o_eqs (h : Q (.bool (decide (x = y))) m σ) : op2 C (compareOp .Eq) (.str x 0) (.str y 0) Q m σ := op2s_of h fun _ _ s _ _ q => PyProof.Rows.eq_str (q _ s.toks rfl)
theorem o_nes (h : Q (.bool (!decide (x = y))) m σ) : op2 C (compareOp .NotEq) (.str x 0) (.str y 0) Q m σ := op2s_of h fun _ _ s _ _ q => PyProof.Rows.ne_str (q _ s.toks rfl)
theorem str_add_eq (x y : Str) : x ++ y = S (L x ++ L y) := by
  show (⟨x.cps ++ y.cps⟩ : Str) = ⟨(x.cps.toList ++ y.cps.toList).toArray⟩
  congr 1
  apply Array.ext'
  simp
theorem add_str_wp {C : Cx} {s : Shared} {t u : Tok} {Q' : Value → Shared → Prop} {E' : Value → Shared → Prop} (hz : (L x).length + (L y).length ≤ sizeLine) (q : ∀ v tk, er v = .str (S (L x ++ L y)) 0 → Q' v { s with toks := tk }) :
    (if x.length == 0 then Made.val (.str y u) else if y.length == 0 then Made.val (.str x t) else Made.str (x ++ y)).post Q' s := by
  have ex : (x.length == 0) = true → L x = [] := fun h => by
    have : x.length = 0 := by simpa using h
    rw [← L_len] at this
    exact List.eq_nil_of_length_eq_zero this
  have ey : (y.length == 0) = true → L y = [] := fun h => by
    have : y.length = 0 := by simpa using h
    rw [← L_len] at this
    exact List.eq_nil_of_length_eq_zero this
  split
  · rename_i h
    exact q (.str y u) s.toks (by rw [ex h]; rfl)
  · split
    · rename_i h
      exact q (.str x t) s.toks (by rw [ey h, List.append_nil]; rfl)
    · refine ⟨?_, q _ _ (by rw [str_add_eq])⟩
      rw [str_add_eq]
      show (L x ++ L y).toArray.size ≤ sizeLine
      simpa using hz
theorem o_adds (hz : (L x).length + (L y).length ≤ sizeLine) (h : Q (.str (S (L x ++ L y)) 0) m σ) : op2 C (binaryOp .Add) (.str x 0) (.str y 0) Q m σ :=
  op2s_of h fun t u s Q' E' q => PySem.P.add_str (add_str_wp (C := C) (E' := E') hz q)
end
end
section
theorem inv0 {l : List Value} (h : l.map er = []) : l = [] := by cases l with | nil => rfl | cons x l => exact nomatch h
theorem invS {l : List Value} {a : Value} {r : List Value} (h : l.map er = a :: r) : ∃ a' l', l = a' :: l' ∧ er a' = a ∧ l'.map er = r := by
  cases l with
  | nil => exact nomatch h
  | cons x l => exact ⟨x, l, rfl, (List.cons.inj h).1, (List.cons.inj h).2⟩
theorem inv1 {l : List Value} {a : Value} (h : l.map er = [a]) : ∃ a', l = [a'] ∧ er a' = a :=
  let ⟨x, _, e, h1, h⟩ := invS h; ⟨x, by rw [e, inv0 h], h1⟩
theorem inv2 {l : List Value} {a b : Value} (h : l.map er = [a, b]) : ∃ a' b', l = [a', b'] ∧ er a' = a ∧ er b' = b :=
  let ⟨x, _, e, h1, h⟩ := invS h; let ⟨y, e2, h2⟩ := inv1 h; ⟨x, y, by rw [e, e2], h1, h2⟩
theorem inv3 {l : List Value} {a b c : Value} (h : l.map er = [a, b, c]) : ∃ a' b' c', l = [a', b', c'] ∧ er a' = a ∧ er b' = b ∧ er c' = c :=
  let ⟨x, _, e, h1, h⟩ := invS h; let ⟨y, z, e2, h2, h3⟩ := inv2 h; ⟨x, y, z, by rw [e, e2], h1, h2, h3⟩
def bnd (n : Nat) (d : Nat) (i : Option Int) : Nat := i.elim d (clipAt n)
def cut {α : Type} (lo hi : Option Int) (l : List α) : List α := (l.drop (bnd l.length 0 lo)).take (bnd l.length l.length hi - bnd l.length 0 lo)
theorem cut_map {α β : Type} (f : α → β) (lo hi : Option Int) (l : List α) : (cut lo hi l).map f = cut lo hi (l.map f) := by
  simp [cut, List.map_take, List.map_drop]
theorem slicePick_cut (items : Array Value) (lo hi : Option Int) : (slicePick items lo hi none).toList = cut lo hi items.toList := by
  rw [slicePick_plain]
  simp [cut, bnd]
theorem cut_length {α : Type} (lo hi : Option Int) (l : List α) : (cut lo hi l).length ≤ l.length := by
  simp [cut]; omega
theorem cut_nn {α : Type} (a b : Nat) (l : List α) : cut (some (a : Int)) (some (b : Int)) l = (l.drop a).take (b - a) := by
  unfold cut bnd
  simp only [Option.elim, clipAt_nat]
  by_cases ha : a ≤ l.length
  · rw [Nat.min_eq_left ha]
    by_cases hb : b ≤ l.length
    · rw [Nat.min_eq_left hb]
    · rw [Nat.min_eq_right (Nat.le_of_not_le hb)]
      rw [List.take_of_length_le (by simp), List.take_of_length_le (by simp; omega)]
  · rw [Nat.min_eq_right (Nat.le_of_not_le ha), List.drop_of_length_le (i := l.length) (Nat.le_refl _), List.drop_of_length_le (i := a) (Nat.le_of_not_le ha)]
    simp
theorem cut_from {α : Type} (a : Nat) (l : List α) : cut (some (a : Int)) none l = l.drop a := by
  have := cut_nn a l.length l
  unfold cut bnd at this ⊢
  simp only [Option.elim, clipAt_nat, Nat.min_self] at this ⊢
  rw [this, List.take_of_length_le (by simp)]
theorem cut_to {α : Type} (b : Nat) (l : List α) : cut none (some (b : Int)) l = l.take b := by
  have := cut_nn 0 b l
  unfold cut bnd at this ⊢
  simp only [Option.elim, clipAt_nat, Nat.zero_min] at this ⊢
  rw [this]; simp
def raw1 : Option (Int × Tok) → Option Int := Option.map (·.1)
theorem picked_cut (x : Str) (l u : Option (Int × Tok)) : ((slicePicked x l u none).filterMap (x.cps[·]?)) = cut (raw1 l) (raw1 u) (L x) := by
  have e : slicePicked x l u none = sliceRange (sliceBounds (raw1 l) (raw1 u) none x.length).1 (sliceBounds (raw1 l) (raw1 u) none x.length).2.1 (sliceBounds (raw1 l) (raw1 u) none x.length).2.2 := rfl
  rw [e, sliceBounds_plain]
  simp only [sliceRange_one, pick_run, cut, bnd, L_len]
  rfl
theorem sliceMade_cut (x : Str) (t : Tok) (l u : Option (Int × Tok)) {Q : Value → Shared → Prop} {s : Shared} (hx : x.length ≤ sizeLine) (q : ∀ v tk, er v = .str (S (cut (raw1 l) (raw1 u) (L x))) 0 → Q v { s with toks := tk }) : (sliceMade x t l u none).post Q s := by
  unfold sliceMade
  have hlen := Nat.le_of_eq (congrArg List.length (picked_cut x l u))
  split
  · rename_i h
    have h2 : (slicePicked x l u none).length = x.length := by
      simp only [Bool.and_eq_true, beq_iff_eq] at h
      exact h.2
    refine q (.str x t) s.toks ?_
    have hc : (cut (raw1 l) (raw1 u) (L x)) = L x := by
      refine List.Sublist.eq_of_length ((List.take_sublist _ _).trans (List.drop_sublist _ _)) ?_
      rw [← picked_cut, L_len, ← h2]
      have hb : ∀ j ∈ slicePicked x l u none, j < x.length := by
        intro j hj
        have e : slicePicked x l u none = sliceRange (sliceBounds (raw1 l) (raw1 u) none x.length).1 (sliceBounds (raw1 l) (raw1 u) none x.length).2.1 (sliceBounds (raw1 l) (raw1 u) none x.length).2.2 := rfl
        rw [e, sliceBounds_plain] at hj
        simp only [sliceRange_one, List.mem_map, List.mem_range] at hj
        obtain ⟨k, hk, rfl⟩ := hj
        have : (raw1 u).elim x.length (clipAt x.length) ≤ x.length := by
          cases raw1 u with
          | none => exact Nat.le_refl _
          | some i =>
            have := clipAt_cast x.length i
            show clipAt x.length i ≤ x.length
            omega
        omega
      rw [List.length_filterMap_eq_countP, List.countP_eq_length.mpr]
      intro j hj
      have := hb j hj
      simp [Array.getElem?_eq_getElem (show j < x.cps.size from this)]
    rw [hc]; simp [er]
  · refine ⟨?_, q _ _ ?_⟩
    · show (List.filterMap _ _).toArray.size ≤ sizeLine
      rw [List.size_toArray, picked_cut]
      have := cut_length (raw1 l) (raw1 u) (L x)
      rw [L_len] at this
      omega
    · show Value.str _ 0 = _
      rw [picked_cut]; rfl
section
variable {C : Cx} {m : Map} {σ : Sto} {Q : Value → Map → Sto → Prop}
def Got (C : Cx) (o : Value) (σ : Sto) : Prop := ∀ (s : Shared) (m : Map) o', er o' = o → C.S s.heap m σ → ∃ T id, typeLookup (.type T) "__getitem__" = pure (some (.builtin id)) ∧ s.TypeIs o' T
theorem got_str {x : Str} : Got C (.str x 0) σ := fun s m o' e st => by
  obtain ⟨t, rfl⟩ := er_str e
  exact ⟨"str", _, F.slot_str_getitem.lookup, typeIs_str s x t⟩
theorem got_list {a : Addr} {vs : List Value} (h : σ a = some (.list vs)) : Got C (.ref a) σ := fun s m o' e st => by
  rw [er_ref e]
  obtain ⟨o, ho, its, n, rfl, _⟩ := st.obj a _ h
  exact ⟨"list", _, list_getitem_lookup, ⟨_, ho, rfl⟩⟩
theorem subscript_wp {M : Model} {A : Around} {E : Value → Shared → Prop} {s : Shared} {value slice : Expr} {o i : Value} {T id : String} {Q : Value → Shared → Prop} (hl : typeLookup (.type T) "__getitem__" = pure (some (.builtin id))) (hT : s.TypeIs o T)
    (h : wpAny M A (subscripted slice false o i) Q E s) (ht : ∀ o r, letTemporaryGo value o r = pure ()) :
    wpAny M A (do let r ← subscripted slice (← getitemInPython o) o i; letTemporaryGo value o r; pure r) Q E s := by
  refine wpAny_bind ?_
  rw [getitemInPython_of_ne hT.not_modules]
  refine wpAny_bind (wpAny_specialOf hT hl ?_)
  have fin : wpAny M A (subscripted slice false o i) (fun r s₃ => wpAny M A (letTemporaryGo value o r >>= fun _ => pure r) Q E s₃) E s :=
    wpAny_mono h (fun r s₃ h₃ => wpAny_bind (wpAny_of_eq (ht o r) (wpAny_pure h₃))) fun _ _ x => x
  first
    | exact wpAny_pure (wpAny_bind fin)
    | exact wpAny_bind (wpAny_pure (wpAny_bind fin))
    | exact wpAny_bind fin
@[reducible] noncomputable def k_v_sub1 (C : Cx) (o) (Q : Value → Map → Sto → Prop) := fun i (m₂ : Map) (σ₂ : Sto) => Got C o σ₂ ∧ op2 C getItem o i Q m₂ σ₂
@[reducible] noncomputable def k_v_sub2 (C : Cx) (idx : Expr) (Q : Value → Map → Sto → Prop) := fun o (m₁ : Map) (σ₁ : Sto) => C.V (eval idx C.env) (k_v_sub1 C o Q) m₁ σ₁
theorem v_sub {value idx : Expr} {pos : Pos} (h : C.V (eval value C.env) (k_v_sub2 C idx Q) m σ)
    (hs : ∀ o i, subscripted idx false o i = PySem.operate [o, i] (getItem o i) := by intro _ _; rfl) (ht : ∀ o r, letTemporaryGo value o r = pure () := by intro _ _; rfl) : C.V (eval (.Subscript value idx pos) C.env) Q m σ := by
  show C.V _ Q m σ
  rw [eval_Subscript]
  refine WE.bind (WE.mono1 h fun o m₁ σ₁ q => WE.bind (WE.holding (WE.mono1 q fun i m₂ σ₂ q => WE.bind (WE.standAt ?_))))
  intro s st
  obtain ⟨hg, q⟩ := q
  obtain ⟨T, id, hl, hT⟩ := hg s _ o rfl st
  refine subscript_wp hl hT ?_ ht
  rw [hs]
  exact WE.operate (q o i rfl rfl) s st
def part (C : Cx) (x : Option Expr) (Q : Option Int → Map → Sto → Prop) (m : Map) (σ : Sto) : Prop :=
  C.W (evalPart x C.env) (fun v m₁ σ₁ => ∃ l : Option (Int × Tok), v = partValue l ∧ Q (raw1 l) m₁ σ₁) m σ
theorem part_none {Q : Option Int → Map → Sto → Prop} (h : Q none m σ) : part C none Q m σ := WE.pure ⟨none, rfl, h⟩
def IntP (v : Value) (K : Int → Prop) : Prop := ∃ i, v = .int i 0 ∧ K i
theorem intP {i : Int} {K : Int → Prop} (h : K i) : IntP (.int i 0) K := ⟨i, rfl, h⟩
@[reducible] noncomputable def k_part_some1 (Q : Option Int → Map → Sto → Prop) := fun v (m₁ : Map) (σ₁ : Sto) => IntP v fun i => Q (some i) m₁ σ₁
theorem part_some {e : Expr} {Q : Option Int → Map → Sto → Prop} (h : C.V (eval e C.env) (k_part_some1 Q) m σ) : part C (some e) Q m σ :=
  WE.mono1 h fun v _ _ q => by
    obtain ⟨i, e, q⟩ := q
    obtain ⟨t, rfl⟩ := er_int e
    exact ⟨some (i, t), rfl, q⟩
theorem part_is {l : Option (Int × Tok)} : IsPart (partValue l) (raw1 l) := by
  cases l with
  | none => exact .none
  | some p => exact .int _ _
inductive sliceOn (C : Cx) (o : Value) (a b : Option Int) (Q : Value → Map → Sto → Prop) (m : Map) (σ : Sto) : Prop where
  | str (x : Str) (e : o = .str x 0) (hx : x.length ≤ sizeLine) (h : Q (.str (S (cut a b (L x))) 0) m σ)
  | list (l : Addr) (vs : List Value) (e : o = .ref l) (hl : σ l = some (.list vs)) (hz : vs.length ≤ sizeLine) (h : ∀ D, σ D = none → Q (.ref D) m (σ.upd D (.list (cut a b vs))))
theorem sl_str {x : Str} {a b : Option Int} (hx : x.length ≤ sizeLine) (h : Q (.str (S (cut a b (L x))) 0) m σ) : sliceOn C (.str x 0) a b Q m σ := .str x rfl hx h
theorem sl_list {l : Addr} {vs : List Value} {a b : Option Int} (hl : σ l = some (.list vs)) (hz : vs.length ≤ sizeLine) (h : ∀ D, σ D = none → Q (.ref D) m (σ.upd D (.list (cut a b vs)))) : sliceOn C (.ref l) a b Q m σ := .list l vs rfl hl hz h
@[reducible] noncomputable def k_v_slice1 (C : Cx) (o) (a) (Q : Value → Map → Sto → Prop) := fun b (m₃ : Map) (σ₃ : Sto) => sliceOn C o a b Q m₃ σ₃
@[reducible] noncomputable def k_v_slice2 (C : Cx) (hi : Option Expr) (o) (Q : Value → Map → Sto → Prop) := fun a (m₂ : Map) (σ₂ : Sto) => part C hi (k_v_slice1 C o a Q) m₂ σ₂
@[reducible] noncomputable def k_v_slice3 (C : Cx) (lo : Option Expr) (hi : Option Expr) (Q : Value → Map → Sto → Prop) := fun o (m₁ : Map) (σ₁ : Sto) => part C lo (k_v_slice2 C hi o Q) m₁ σ₁
theorem v_slice {value : Expr} {lo hi : Option Expr} {p pos : Pos}
    (h : C.V (eval value C.env) (k_v_slice3 C lo hi Q) m σ)
    (ht : ∀ o r, letTemporaryGo value o r = pure () := by intro _ _; rfl) : C.V (eval (.Subscript value (.Slice lo hi none p) pos) C.env) Q m σ := by
  intro s st
  rw [eval_Subscript]
  refine wpAny_bind (wpAny_mono (h s st) (fun o s₁ p => wpAny_bind (wpAny_holding (wpAny_Slice ?_))) fun _ _ e => e)
  obtain ⟨m₁, σ₁, h₁, t₁, rfl, st₁, o₁, q⟩ := p
  refine wpAny_mono (q _ st₁) (fun vl s₂ p => ?_) fun _ _ p => PostW.trans o₁ p
  obtain ⟨m₂, σ₂, h₂, t₂, rfl, st₂, o₂, l, rfl, q⟩ := p
  refine wpAny_mono (q _ st₂) (fun vu s₃ p => ?_) fun _ _ p => PostW.trans (o₁.trans o₂) p
  obtain ⟨m₃, σ₃, h₃, t₃, rfl, st₃, o₃, u, rfl, q⟩ := p
  rw [evalPart_none]
  refine wpAny_pure (wpAny_bind (wpAny_standAt ?_))
  generalize hH : ({ s with heap := h₃, toks := t₃ } : Shared).heap.push { cls := .type "slice", data := .fields #[partValue l, partValue u, .none] } = H
  have hH : h₃.push { cls := .type "slice", data := .fields #[partValue l, partValue u, .none] } = H := hH
  obtain ⟨st₄, o₄⟩ := st₃.pushed { cls := .type "slice", data := .fields #[partValue l, partValue u, .none] }
  rw [hH] at st₄ o₄
  have oo := ((o₁.trans o₂).trans o₃).trans o₄
  cases q with
  | str x eo hx q5 =>
    obtain ⟨t, rfl⟩ := er_str eo
    refine subscript_wp (T := "str") F.slot_str_getitem.lookup (typeIs_str _ x t) (wpAny_operateT ?_) ht
    refine wpAny_getItem_str_slice (l := l) (u := u) (st := none) ⟨{ cls := .type "slice", data := .fields #[partValue l, partValue u, .none] }, by rw [← hH]; exact Heap.get?_push_size _ rfl, rfl, rfl⟩ rfl ?_
    refine sliceMade_cut x t l u hx fun v tk ev => ?_
    refine ⟨m₃, σ₃, _, tk, rfl, st₄, oo, ?_⟩
    show Q (er v) m₃ σ₃
    rw [ev]; exact q5
  | list a vs eo ha hz q5 =>
    rw [er_ref eo]
    obtain ⟨ob, hob, its, n, rfl, hvs⟩ := st₄.obj a _ ha
    have hl : H.IsList a its := ⟨_, hob, rfl, n, rfl⟩
    have z : its.size = vs.length := by rw [← hvs]; simp
    refine subscript_wp (T := "list") list_getitem_lookup hl.typeIs (wpAny_operateT ?_) ht
    refine wpAny_getItem_list_slice (vl := partValue l) (vu := partValue u) (vs := .none) (lo := raw1 l) (hi := raw1 u) (st := none) hl ⟨{ cls := .type "slice", data := .fields #[partValue l, partValue u, .none] }, by rw [← hH]; exact Heap.get?_push_size _ rfl, rfl, rfl⟩ part_is part_is .none (by simp) ?_ (by rw [z]; exact hz)
    obtain ⟨st₅, o₅⟩ := st₄.made (z := .list (cut (raw1 l) (raw1 u) vs)) (fun b ob e => Heap.get?_push_of_some _ e) (Nat.le_refl _) (Heap.get?_push_size H (o := { cls := .type "list", data := .seq (slicePick its (raw1 l) (raw1 u) none) }) rfl) ⟨_, 0, rfl, by rw [slicePick_cut, cut_map, hvs]⟩
    exact ⟨m₃, _, _, t₃, rfl, st₅, oo.trans o₅, q5 _ (st₄.fresh (Nat.le_refl _))⟩
end
end
section
@[reducible] def sv (x : Str) : Value := .str x 0
@[reducible] def nv (i : Int) : Value := .int i 0
theorem S_len (l : List Nat) : (S l).length = l.length := by simp [S, Str.length]
theorem sv_inj {x y : Str} (h : sv x = sv y) : x = y := by unfold sv at h; exact (Value.str.inj h).1
section
variable {C : Cx} {m : Map} {σ : Sto} {Q : Value → Map → Sto → Prop}
theorem list_at {h : Heap} {a : Addr} {vs : List Value} (st : C.S h m σ) (e : σ a = some (.list vs)) : ∃ its n, IsL h a its n ∧ its.toList.map er = vs := by
  obtain ⟨o, ho, its, n, rfl, e⟩ := st.obj a _ e
  exact ⟨its, n, ho, e⟩
theorem tup_at {h : Heap} {a : Addr} {vs : List Value} (st : C.S h m σ) (e : σ a = some (.tup vs)) : ∃ its n, h.get? a = some { cls := .type "tuple", data := .seq its n } ∧ its.toList.map er = vs := by
  obtain ⟨o, ho, its, n, rfl, e⟩ := st.obj a _ e
  exact ⟨its, n, ho, e⟩
theorem its_size {its : Array Value} {vs : List Value} (e : its.toList.map er = vs) : its.size = vs.length := by rw [← e]; simp
theorem St.listTurn {h : Heap} {a : Addr} {vs vs' : List Value} {its : Array Value} {n : Nat} (st : C.S h m σ) (e : σ a = some (.list vs)) (hl : IsL h a its n) (f : Array Value → Array Value) (hv : (f its).toList.map er = vs') :
    C.S (h.update a (Obj.mapSeq f)) m (σ.upd a (.list vs')) ∧ Out C.env.locals σ h (σ.upd a (.list vs')) (h.update a (Obj.mapSeq f)) :=
  st.turned e (Heap.SameBut.update ..) (hl.update f) ⟨_, _, rfl, hv⟩
theorem St.newList {h : Heap} {vs : List Value} {its : Array Value} (st : C.S h m σ) (hv : its.toList.map er = vs) :
    C.S (h.push { cls := .type "list", data := .seq its }) m (σ.upd h.objs.size (.list vs)) ∧ Out C.env.locals σ h (σ.upd h.objs.size (.list vs)) (h.push { cls := .type "list", data := .seq its }) :=
  st.made (fun b ob e => Heap.get?_push_of_some _ e) (Nat.le_refl _) (Heap.get?_push_size h rfl) ⟨_, 0, rfl, hv⟩
theorem St.newTup {h : Heap} {vs : List Value} {its : Array Value} (st : C.S h m σ) (hv : its.toList.map er = vs) :
    C.S (h.push { cls := .type "tuple", data := .seq its }) m (σ.upd h.objs.size (.tup vs)) ∧ Out C.env.locals σ h (σ.upd h.objs.size (.tup vs)) (h.push { cls := .type "tuple", data := .seq its }) :=
  st.made (fun b ob e => Heap.get?_push_of_some _ e) (Nat.le_refl _) (Heap.get?_push_size h rfl) ⟨_, 0, rfl, hv⟩
@[reducible] noncomputable def k_v_list1 (Q : Value → Map → Sto → Prop) := fun vs (m₁ : Map) (σ₁ : Sto) => vs.length ≤ sizeLine ∧ ∀ D, σ₁ D = none → Q (.ref D) m₁ (σ₁.upd D (.list vs))
theorem v_list {es : List Expr} {pos : Pos} (h : items C pos es (k_v_list1 Q) m σ) : C.V (eval (.List es pos) C.env) Q m σ := by
  intro s st
  refine wpAny_List (wpAny_mono (h s st) (fun vs s₁ p => ?_) fun _ _ e => e)
  obtain ⟨m₁, σ₁, h₁, t₁, rfl, st₁, o₁, hz, q⟩ := p
  rw [List.length_map] at hz
  obtain ⟨st₂, o₂⟩ := st₁.newList (its := vs.toArray) rfl
  exact ⟨hz, m₁, _, _, t₁, rfl, st₂, o₁.trans o₂, q _ (st₁.fresh (Nat.le_refl _))⟩
@[reducible] noncomputable def k_v_tuple1 (Q : Value → Map → Sto → Prop) := fun vs (m₁ : Map) (σ₁ : Sto) => vs.length ≤ sizeLine ∧ ∀ D, σ₁ D = none → Q (.ref D) m₁ (σ₁.upd D (.tup vs))
theorem v_tuple {es : List Expr} {k : Nat} {pos : Pos} (h : items C pos es (k_v_tuple1 Q) m σ) : C.V (eval (.Tuple es k pos) C.env) Q m σ := by
  intro s st
  refine wpAny_Tuple (wpAny_mono (h s st) (fun vs s₁ p => ?_) fun _ _ e => e)
  obtain ⟨m₁, σ₁, h₁, t₁, rfl, st₁, o₁, hz, q⟩ := p
  rw [List.length_map] at hz
  obtain ⟨st₂, o₂⟩ := st₁.newTup (its := vs.toArray) rfl
  exact ⟨hz, m₁, _, _, t₁, rfl, st₂, o₁.trans o₂, q _ (st₁.fresh (Nat.le_refl _))⟩
theorem c_len_str {x : Str} (hx : x.length ≤ sizeLine) (h : Q (.int x.length 0) m σ) : vcall C (.builtin "len") [.str x 0] Q m σ := fun args' e => by
  obtain ⟨a, rfl, ea⟩ := inv1 e
  obtain ⟨t, rfl⟩ := er_str ea
  have hf : ¬ (x.length : Int) ≥ 2 ^ 63 := by have : sizeLine = 16777216 := sizeLine_eq; omega
  exact WV.still _ h fun s _ _ _ q => P.len_str hf (q _ _ rfl)
theorem c_len_list {l : Addr} {vs : List Value} (hl : σ l = some (.list vs)) (hz : vs.length ≤ sizeLine) (h : Q (.int vs.length 0) m σ) : vcall C (.builtin "len") [.ref l] Q m σ := fun args' e => by
  obtain ⟨a, rfl, ea⟩ := inv1 e
  rw [er_ref ea]
  refine WV.still _ h fun s _ _ st q => ?_
  obtain ⟨its, n, hi, ev⟩ := list_at st hl
  have z := its_size ev
  exact Calls.call_len_list hi.isList (by have : sizeLine = 16777216 := sizeLine_eq; omega) (q _ _ (by show Value.int _ 0 = _; rw [z]))
theorem c_len_tup {l : Addr} {vs : List Value} (hl : σ l = some (.tup vs)) (hz : vs.length ≤ sizeLine) (h : Q (.int vs.length 0) m σ) : vcall C (.builtin "len") [.ref l] Q m σ := fun args' e => by
  obtain ⟨a, rfl, ea⟩ := inv1 e
  rw [er_ref ea]
  refine WV.still _ h fun s _ _ st q => ?_
  obtain ⟨its, n, hi, ev⟩ := tup_at st hl
  have z := its_size ev
  exact P.len_tuple hi (by have : sizeLine = 16777216 := sizeLine_eq; omega) (q _ _ (by show Value.int _ 0 = _; rw [z]))
theorem m_str {x name : Str} {id : String} {K : Value → List Value → Map → Sto → Prop} (h : K (.builtin id) [.str x 0] m σ) (slot : Slot "str" name id) (hty : typeOf (.builtin id) = pure (.type "method_descriptor") := by rfl) : getm C (.str x 0) name K m σ := fun ov pl e => by
  obtain ⟨t, rfl⟩ := er_str e
  exact fun s st => getMethod_builtin (typeIs_str s x t) F.plainAttrs_str slot hty (fun a q => nomatch q) ⟨m, σ, s.heap, s.toks, rfl, st, Out.refl _ _ _, h⟩
theorem m_list {l : Addr} {vs : List Value} {name : Str} {id : String} {K : Value → List Value → Map → Sto → Prop} (hl : σ l = some (.list vs)) (h : K (.builtin id) [.ref l] m σ) (slot : Slot "list" name id) (hty : typeOf (.builtin id) = pure (.type "method_descriptor") := by rfl) : getm C (.ref l) name K m σ := fun ov pl e => by
  rw [er_ref e]
  intro s st
  obtain ⟨its, n, hi, ev⟩ := list_at st hl
  exact getMethod_builtin ⟨_, hi, rfl⟩ F.plainAttrs_list slot hty (fun a q => by cases q; exact ⟨_, hi, rfl⟩) ⟨m, σ, s.heap, s.toks, rfl, st, Out.refl _ _ _, h⟩
theorem c_find {x y : Str} (h : Q (.int (Txt.find x y) 0) m σ) : vcall C (.builtin "str.find") [.str x 0, .str y 0] Q m σ := fun args' e => by
  obtain ⟨a, b, rfl, ea, eb⟩ := inv2 e
  obtain ⟨t, rfl⟩ := er_str ea
  obtain ⟨u, rfl⟩ := er_str eb
  exact WV.still _ h fun s _ _ st q => SC.find (q _ _ rfl)
theorem c_rfind {x y : Str} (h : Q (.int (Txt.rfind x y) 0) m σ) : vcall C (.builtin "str.rfind") [.str x 0, .str y 0] Q m σ := fun args' e => by
  obtain ⟨a, b, rfl, ea, eb⟩ := inv2 e
  obtain ⟨t, rfl⟩ := er_str ea
  obtain ⟨u, rfl⟩ := er_str eb
  exact WV.still _ h fun s _ _ st q => SC.rfind (q _ _ rfl)
theorem c_index {x y : Str} {i : Nat} {rest : List Nat} (ho : Builtin.Str.occurrences x y 0 x.length 1 = i :: rest) (h : Q (.int i 0) m σ) : vcall C (.builtin "str.index") [.str x 0, .str y 0] Q m σ := fun args' e => by
  obtain ⟨a, b, rfl, ea, eb⟩ := inv2 e
  obtain ⟨t, rfl⟩ := er_str ea
  obtain ⟨u, rfl⟩ := er_str eb
  exact WV.still _ h fun s _ _ st q => SC.index ho (q _ _ rfl)
theorem o_ins {x y : Str} (h : Q (.bool (Txt.contains x y)) m σ) : op2 C (compareOp .In) (.str y 0) (.str x 0) Q m σ := op2s_of h fun t u s Q' E' q => P.in_str (q _ s.toks rfl)
theorem o_notins {x y : Str} (h : Q (.bool (!Txt.contains x y)) m σ) : op2 C (compareOp .NotIn) (.str y 0) (.str x 0) Q m σ := op2s_of h fun t u s Q' E' q => P.notIn_str (q _ s.toks rfl)
theorem o_gets {x : Str} {i : Int} {c : Nat} (hr : (decide (i < -(2 ^ 63 : Int)) || decide (i ≥ 2 ^ 63)) = false) (hc : (seqIndex? i x.length).bind (x.cps[·]?) = some c) (h : Q (.str (S [c]) 0) m σ) : op2 C getItem (.str x 0) (.int i 0) Q m σ := by
  intro a' b' ea eb
  obtain ⟨t, rfl⟩ := er_str ea
  obtain ⟨u, rfl⟩ := er_int eb
  exact WV.still _ h fun s Q' E' _ q => P.getItem_str hr hc (q _ _ rfl)
theorem o_getn {x : Str} {i c : Nat} (hi : (L x)[i]? = some c) (hz : x.length ≤ sizeLine) (h : Q (.str (S [c]) 0) m σ) : op2 C getItem (.str x 0) (.int i 0) Q m σ := by
  have hlt : i < x.length := by
    have := (List.getElem?_eq_some_iff.mp hi).1
    rw [L_len] at this
    exact this
  have hs : sizeLine = 16777216 := sizeLine_eq
  refine o_gets ?_ ?_ h
  · simp only [Bool.or_eq_false_iff, decide_eq_false_iff_not]
    omega
  · unfold seqIndex?
    have e1 : ¬ ((i : Int) < 0) := by omega
    simp only [e1, if_false]
    have e2 : (decide (0 ≤ (i : Int)) && decide ((i : Int) < (x.length : Int))) = true := by simp; omega
    rw [if_pos e2]
    show x.cps[(i : Int).toNat]? = some c
    rw [Int.toNat_natCast]
    rw [← Array.getElem?_toList]
    exact hi
theorem o_getl {l : Addr} {vs : List Value} {i : Nat} {v : Value} (hl : σ l = some (.list vs)) (hz : i < 2 ^ 63) (hv : vs[i]? = some v) (h : Q v m σ) : op2 C getItem (.ref l) (.int i 0) Q m σ := by
  intro a' b' ea eb
  rw [er_ref ea]
  obtain ⟨u, rfl⟩ := er_int eb
  refine WV.still _ h fun s Q' E' st q => ?_
  obtain ⟨its, n, hi, ev⟩ := list_at st hl
  obtain ⟨v', h1, h2⟩ := arr_get ev hv
  exact wpAny_getItem_list hi.isList (by omega) (by omega) (by rw [Int.toNat_natCast]; exact h1) (q v' s.toks h2)
theorem test_list {l : Addr} {vs : List Value} {K : Bool → Map → Sto → Prop} (hl : σ l = some (.list vs)) (hz : vs.length ≤ sizeLine) (h : K (!vs.isEmpty) m σ) : test1 C (.ref l) K m σ := fun a' e => by
  rw [er_ref e]
  refine WE.still _ h fun s Q' E' st q => ?_
  obtain ⟨its, n, hi, ev⟩ := list_at st hl
  have z := its_size ev
  have e2 : vs.isEmpty = its.isEmpty := by
    rw [← ev]
    simp
  rw [e2] at q
  exact wpAny_truthy_list hi.isList (by have : sizeLine = 16777216 := sizeLine_eq; omega) (q _)
theorem c_append {l : Addr} {vs : List Value} {v : Value} (hl : σ l = some (.list vs)) (hz : vs.length ≤ sizeLine) (h : Q .none m (σ.upd l (.list (vs ++ [v])))) : vcall C (.builtin "list.append") [.ref l, v] Q m σ := fun args' e => by
  obtain ⟨a, b, rfl, ea, eb⟩ := inv2 e
  rw [er_ref ea]
  intro s st
  obtain ⟨its, n, hi, ev⟩ := list_at st hl
  have z := its_size ev
  refine call_meets F.slot_list_append ⟨_, hi, rfl⟩ F.entry_list_append (F.args_list_append_2 _ _) (list_append l its n b (by omega)) ⟨hi, ?_⟩
  obtain ⟨st', o'⟩ := st.listTurn hl hi (fun xs => xs.push b) (vs' := vs ++ [v]) (by simp [ev, eb])
  exact ⟨m, _, _, s.toks, rfl, st', o', h⟩
theorem c_pop {l : Addr} {vs : List Value} {v : Value} (hl : σ l = some (.list (vs ++ [v]))) (hz : vs.length < sizeLine) (h : Q v m (σ.upd l (.list vs))) : vcall C (.builtin "list.pop") [.ref l] Q m σ := fun args' e => by
  obtain ⟨a, rfl, ea⟩ := inv1 e
  rw [er_ref ea]
  intro s st
  obtain ⟨its, n, hi, ev⟩ := list_at st hl
  have z := its_size ev
  rw [List.length_append, List.length_singleton] at z
  obtain ⟨y, h1, h2⟩ := arr_get ev (i := its.size - 1) (v := v) (by rw [z]; simp)
  refine call_meets F.slot_list_pop ⟨_, hi, rfl⟩ F.entry_list_pop (F.args_list_pop_1 _) (MeetsSeq.list_pop_last l its n y h1 (by omega)) ⟨hi, ?_⟩
  obtain ⟨st', o'⟩ := st.listTurn hl hi (fun xs => xs.eraseIdxIfInBounds (its.size - 1)) (vs' := vs) (by
    have e1 : (its.eraseIdxIfInBounds (its.size - 1)) = its.pop := by
      rw [Array.eraseIdxIfInBounds]
      split
      · apply Array.ext'
        simp [List.eraseIdx_eq_take_drop_succ, List.dropLast_eq_take]
        omega
      · omega
    show (its.eraseIdxIfInBounds (its.size - 1)).toList.map er = vs
    rw [e1, Array.toList_pop, List.map_dropLast, ev]; simp)
  refine ⟨m, _, _, s.toks, rfl, st', o', ?_⟩
  show Q (er y) _ _
  rw [h2]; exact h
theorem c_clear {l : Addr} {vs : List Value} (hl : σ l = some (.list vs)) (hz : vs.length ≤ sizeLine) (h : Q .none m (σ.upd l (.list []))) : vcall C (.builtin "list.clear") [.ref l] Q m σ := fun args' e => by
  obtain ⟨a, rfl, ea⟩ := inv1 e
  rw [er_ref ea]
  intro s st
  obtain ⟨its, n, hi, ev⟩ := list_at st hl
  have z := its_size ev
  refine call_meets F.slot_list_clear ⟨_, hi, rfl⟩ F.entry_list_clear (F.args_list_clear_1 _) (AutoSeq1.list_clear_list_0 l its n (by omega)) ⟨hi, ?_⟩
  obtain ⟨st', o'⟩ := st.listTurn hl hi (fun _ => #[]) (vs' := []) (by simp)
  exact ⟨m, _, _, s.toks, rfl, st', o', h⟩
theorem o_addl {l b : Addr} {vs us : List Value} (hl : σ l = some (.list vs)) (hb : σ b = some (.list us)) (hz : vs.length + us.length ≤ sizeLine) (h : ∀ D, σ D = none → Q (.ref D) m (σ.upd D (.list (vs ++ us)))) : op2 C (binaryOp .Add) (.ref l) (.ref b) Q m σ := by
  intro a' b' ea eb
  rw [er_ref ea, er_ref eb]
  intro s st
  obtain ⟨its, n, hi, ev⟩ := list_at st hl
  obtain ⟨its2, n2, hi2, ev2⟩ := list_at st hb
  have z := its_size ev
  have z2 := its_size ev2
  obtain ⟨st', o'⟩ := st.newList (its := its ++ its2) (vs := vs ++ us) (by simp [ev, ev2])
  exact P.add_list hi hi2 ⟨m, _, _, s.toks, rfl, st', o', h _ (st.fresh (Nat.le_refl _))⟩ (by omega)
theorem its_strs {its : Array Value} {xs : List Str} (e : its.toList.map er = xs.map sv) : ∀ y ∈ its, ∃ x t, y = .str x t ∧ x ∈ xs := by
  intro y hy
  have hm : er y ∈ its.toList.map er := List.mem_map_of_mem (Array.mem_toList_iff.mpr hy)
  rw [e] at hm
  obtain ⟨x, hx, ex⟩ := List.mem_map.mp hm
  obtain ⟨t, rfl⟩ := er_str ex.symm
  exact ⟨x, t, rfl, hx⟩
def isS (x : Str) : Value → Bool
  | .str y _ => y.cps.toList == x.cps.toList
  | _ => false
theorem isS_er (x : Str) (v : Value) : isS x (er v) = isS x v := by cases v <;> rfl
theorem isS_sv (x y : Str) : isS x (sv y) = decide (x = y) := by
  show (L y == L x) = _
  by_cases h : x = y
  · simp [h]
  · have : L y ≠ L x := fun q => h (by have := congrArg S q; simpa using this.symm)
    simp [h, this]
theorem any_isS {its : Array Value} {xs : List Str} (e : its.toList.map er = xs.map sv) (x : Str) : its.any (isS x) = decide (x ∈ xs) := by
  rw [← Array.any_toList]
  have : its.toList.any (isS x) = (its.toList.map er).any (isS x) := by
    rw [List.any_map]
    congr 1
    funext v
    exact (isS_er x v).symm
  rw [this, e, List.any_map, Bool.eq_iff_iff]
  simp only [List.any_eq_true, Function.comp, isS_sv, decide_eq_true_eq]
  constructor
  · rintro ⟨y, hy, rfl⟩; exact hy
  · intro hx; exact ⟨x, hx, rfl⟩
theorem o_inl {l : Addr} {xs : List Str} {x : Str} (hl : σ l = some (.list (xs.map sv))) (h : Q (.bool (decide (x ∈ xs))) m σ) : op2 C (compareOp .In) (.str x 0) (.ref l) Q m σ := by
  intro a' b' ea eb
  obtain ⟨t, rfl⟩ := er_str ea
  rw [er_ref eb]
  refine WV.still _ h fun s Q' E' st q => ?_
  obtain ⟨its, n, hi, ev⟩ := list_at st hl
  refine SeqRoads2.in_list (isS x) (fun y hy => ?_) hi (q _ s.toks ?_)
  · obtain ⟨z, u, rfl, _⟩ := its_strs ev y hy
    exact SeqRoads2.EqGives.str z x u t
  · rw [any_isS ev]
theorem o_notinl {l : Addr} {xs : List Str} {x : Str} (hl : σ l = some (.list (xs.map sv))) (h : Q (.bool (!decide (x ∈ xs))) m σ) : op2 C (compareOp .NotIn) (.str x 0) (.ref l) Q m σ := by
  intro a' b' ea eb
  obtain ⟨t, rfl⟩ := er_str ea
  rw [er_ref eb]
  refine WV.still _ h fun s Q' E' st q => ?_
  obtain ⟨its, n, hi, ev⟩ := list_at st hl
  refine SeqRoads2.notIn_list (isS x) (fun y hy => ?_) hi (q _ s.toks ?_)
  · obtain ⟨z, u, rfl, _⟩ := its_strs ev y hy
    exact SeqRoads2.EqGives.str z x u t
  · rw [any_isS ev]
end
end
section
theorem fn_plain {prog : Program} {w : World} {h₀ : Heap} {k : Nat} {fa : Addr} {o : Obj} {fd : FuncData} {body : List Stmt} {names : List Str} {args : List Value} {Q : Value → Sto → Prop} {σ : Sto}
    (ho : h₀.get? fa = some o) (hd : o.data = .func fd) (hbody : fd.body = .stmts body) (hclo : fd.closure = []) (hlim : h₀.NoLimit) (hcd : h₀.CodeRec fd.code fd.qualname)
    (hb : ∀ vals, vals.map er = args → bindArgs fd ⟨vals, []⟩ = pure (names.zip vals))
    (hloc : (names.all fun n => fd.scope.names.lookup n == some NameKind.local) = true) (hcells : ∀ N, cellsFrom N fd.scope.names [] = [])
    (h : ∀ (A : Around) (L : Addr), Room A k → σ L = none → WE prog w h₀ A L botE (execs body (callEnvC fd L fa)) (fun f _ σ' => Q (er (flowVal f)) σ') (bindL (callEnvC fd L fa).kindOf (names.zip args) fun _ => none) σ)
    (hco : fd.scope.isCoroutine = false := by rfl) (hgen : fd.scope.isGenerator = false := by rfl) (hk : fd.scope.kind = .function := by rfl) : Fn prog w h₀ (k + 1) (.ref fa) args Q botF σ := by
  have zer : ∀ (ns : List Str) (vs : List Value), erB (ns.zip vs) = ns.zip (vs.map er) := by
    intro ns
    induction ns with
    | nil => intro vs; rfl
    | cons n r ih =>
      intro vs
      cases vs with
      | nil => rfl
      | cons v vs => show (n, er v) :: erB (r.zip vs) = _; rw [ih]; rfl
  have hfst : ∀ (ns : List Str) (vs : List Value), ∀ x ∈ (ns.zip vs).map (·.1), x ∈ ns := by
    intro ns vs x hx
    obtain ⟨p, hp, rfl⟩ := List.mem_map.mp hx
    exact (List.of_mem_zip hp).1
  have hcl : ∀ L, (callEnvC fd L fa).cells = [] := fun L => by
    exact hcells (L + 1)
  refine fn_enter ho hd hbody hclo hlim hcd (fun eb σ₁ => eb = names.zip args ∧ σ₁ = σ) (fun A s vals hv rep => ?_) (fun eb σ₁ he N n hn => ?_) (fun N => by rw [hcells]; exact List.nodup_nil) (fun A L eb σ₁ room _ he hL hc => ?_) hco hgen hk
  · exact wpAny_of_eq (hb vals hv) ⟨σ, s.heap, s.toks, rfl, rep, OutC.refl _ _, by rw [zer, hv], rfl⟩
  · obtain ⟨rfl, rfl⟩ := he
    exact .inl (by have := List.all_eq_true.mp hloc n (hfst _ _ n hn); simpa using this)
  · obtain ⟨rfl, rfl⟩ := he
    rw [hcl]
    exact h A L room hL
theorem if_f {b : Bool} {A B : Prop} (hb : b = false) (h : B) : if b = true then A else B := by rw [hb]; simpa using h
theorem if_t {b : Bool} {A B : Prop} (hb : b = true) (h : A) : if b = true then A else B := by rw [hb]; simpa using h
theorem if_tt {A B : Prop} (h : A) : if true = true then A else B := by simpa using h
theorem if_ff {A B : Prop} (h : B) : if false = true then A else B := by simpa using h
theorem if_b {b : Bool} {A B : Prop} (h1 : b = true → A) (h2 : b = false → B) : if b = true then A else B := by
  cases b
  · exact if_f rfl (h2 rfl)
  · exact if_t rfl (h1 rfl)
end
section
def er2 {K : Type} (p : K × Value) : K × Value := (p.1, er p.2)
theorem valueAt_map {K : Type} [DecidableEq K] (xs : List (K × Value)) (k : K) : valueAt (xs.map er2) k = (valueAt xs k).map er := by
  unfold valueAt
  induction xs with
  | nil => rfl
  | cons p r ih =>
    simp only [List.map_cons, List.find?_cons]
    by_cases h : p.1 = k
    · simp [er2, h]
    · simp only [er2, h, decide_false]
      exact ih
theorem any_key {K : Type} [DecidableEq K] (xs : List (K × Value)) (k : K) : (xs.map er2).any (fun kv => decide (kv.1 = k)) = xs.any (fun kv => decide (kv.1 = k)) := by
  rw [List.any_map]; rfl
theorem stored_map {K : Type} [DecidableEq K] (xs : List (K × Value)) (k : K) (v : Value) : (stored xs k v).map er2 = stored (xs.map er2) k (er v) := by
  unfold stored
  rw [any_key]
  split
  · simp only [List.map_map]
    congr 1
    funext p
    simp only [Function.comp, er2]
    by_cases h : p.1 = k <;> simp [h]
  · simp [er2]
section
variable {C : Cx} {m : Map} {σ : Sto} {Q : Value → Map → Sto → Prop}
def Past (h₀ : Heap) : Prop := sysModules < h₀.objs.size
theorem past_ne (hp : Past C.h₀) {h : Heap} {d : Addr} {x : AO} (st : C.S h m σ) (e : σ d = some x) : (d == sysModules) = false := by
  rw [beq_eq_false_iff_ne]
  intro q
  have h1 := st.old d (by rw [e]; intro c; cases c)
  unfold Past at hp
  rw [← q] at hp
  exact absurd hp (Nat.not_lt.mpr h1)
theorem dict_at {h : Heap} {a : Addr} {kvs : List (Str × Value)} {ep : Nat} (st : C.S h m σ) (e : σ a = some (.dstr kvs ep)) : ∃ xs, h.DictAt (strKind C.prog C.w) a xs ep ∧ xs.map er2 = kvs := by
  obtain ⟨o, ho, xs, ⟨es, hd⟩, e⟩ := st.obj a _ e
  exact ⟨xs, ⟨o, es, ho, hd⟩, e⟩
theorem St.dictTurn {h h' : Heap} {a : Addr} {kvs : List (Str × Value)} {ep : Nat} {xs : List (Str × Value)} (st : C.S h m σ) (e : σ a = some (.dstr kvs ep)) (hd : h'.DictOf (strKind C.prog C.w) a xs) (hs : Heap.SameBut a h h') {kvs' : List (Str × Value)} (hx : xs.map er2 = kvs') :
    ∃ ep', C.S h' m (σ.upd a (.dstr kvs' ep')) ∧ Out C.env.locals σ h (σ.upd a (.dstr kvs' ep')) h' := by
  obtain ⟨o, es, ep', ho, hd⟩ := hd
  exact ⟨ep', st.turned e hs ho ⟨xs, ⟨es, hd⟩, hx⟩⟩
theorem is_str {x : Str} {t : Tok} : (strKind C.prog C.w).is x (.str x t) = true := by
  show Value.isStrOf x (.str x t) = true
  simp [Value.isStrOf]
theorem m_dict {l : Addr} {kvs : List (Str × Value)} {ep : Nat} {name : Str} {id : String} {K : Value → List Value → Map → Sto → Prop} (hl : σ l = some (.dstr kvs ep)) (h : K (.builtin id) [.ref l] m σ) (slot : Slot "dict" name id) (hty : typeOf (.builtin id) = pure (.type "method_descriptor") := by rfl) : getm C (.ref l) name K m σ := fun ov pl e => by
  rw [er_ref e]
  intro s st
  obtain ⟨xs, hd, ev⟩ := dict_at st hl
  have hd' := hd
  obtain ⟨o, es, ho, hx, hda, hr⟩ := hd'
  exact getMethod_builtin hd.dictOf.typeIs PySem.F.plainAttrs_dict slot hty (fun a q => by cases q; exact ⟨_, ho, hx.2.1⟩) ⟨m, σ, s.heap, s.toks, rfl, st, Out.refl _ _ _, h⟩
theorem c_dget {d : Addr} {kvs : List (Str × Value)} {ep : Nat} {k : Str} (hp : Past C.h₀) (hd : σ d = some (.dstr kvs ep)) (h : Q ((valueAt kvs k).getD .none) m σ) : vcall C (.builtin "dict.get") [.ref d, .str k 0] Q m σ := fun args' e => by
  obtain ⟨a, b, rfl, ea, eb⟩ := inv2 e
  rw [er_ref ea]
  obtain ⟨t, rfl⟩ := er_str eb
  refine WV.still _ h fun s _ _ st q => ?_
  obtain ⟨xs, hx, ev⟩ := dict_at st hd
  refine call_meetsIn PySem.F.slot_dict_get hx.dictOf.typeIs PySem.F.entry_dict_get (PySem.F.args_dict_get_2 _ _) (meets_dict_get (knd := strKind C.prog C.w) (k := k) d is_str (past_ne hp st hd)) ⟨valueAt xs, hx.dictOf.mapOf, q _ _ ?_⟩
  rw [← ev, valueAt_map]
  cases valueAt xs k <;> rfl
theorem o_getd {d : Addr} {kvs : List (Str × Value)} {ep : Nat} {k : Str} {v : Value} (hd : σ d = some (.dstr kvs ep)) (hv : valueAt kvs k = some v) (h : Q v m σ) : op2 C getItem (.ref d) (.str k 0) Q m σ := by
  intro a' b' ea eb
  rw [er_ref ea]
  obtain ⟨t, rfl⟩ := er_str eb
  refine WV.still _ h fun s _ _ st q => ?_
  obtain ⟨xs, hx, ev⟩ := dict_at st hd
  rw [← ev, valueAt_map, Option.map_eq_some_iff] at hv
  obtain ⟨v', h1, h2⟩ := hv
  exact wpAny_getItem_of is_str hx.dictOf.mapOf h1 (q _ _ h2)
theorem got_dict {a : Addr} {kvs : List (Str × Value)} {ep : Nat} (h : σ a = some (.dstr kvs ep)) : Got C (.ref a) σ := fun s m o' e st => by
  rw [er_ref e]
  obtain ⟨xs, hx, ev⟩ := dict_at st h
  exact ⟨"dict", _, PySem.F.slot_dict_getitem.lookup, hx.dictOf.typeIs⟩
theorem o_ind {d : Addr} {kvs : List (Str × Value)} {ep : Nat} {k : Str} (hp : Past C.h₀) (hd : σ d = some (.dstr kvs ep)) (h : Q (.bool (valueAt kvs k).isSome) m σ) : op2 C (compareOp .In) (.str k 0) (.ref d) Q m σ := by
  intro a' b' ea eb
  rw [er_ref eb]
  obtain ⟨t, rfl⟩ := er_str ea
  refine WV.still _ h fun s _ _ st q => ?_
  obtain ⟨xs, hx, ev⟩ := dict_at st hd
  refine wpAny_in_of is_str (past_ne hp st hd) hx.dictOf.mapOf (q _ _ ?_)
  rw [← ev, valueAt_map, Option.isSome_map]
def setI (C : Cx) (o k v : Value) (Q : Map → Sto → Prop) (m : Map) (σ : Sto) : Prop := ∀ o' k' v', er o' = o → er k' = k → er v' = v → C.W (setItem o' k' v') (fun _ => Q) m σ
theorem set_d {d : Addr} {kvs : List (Str × Value)} {ep : Nat} {k : Str} {v : Value} {Q : Map → Sto → Prop} (hd : σ d = some (.dstr kvs ep)) (hz : kvs.length ≤ sizeLine) (h : ∀ ep', Q m (σ.upd d (.dstr (stored kvs k v) ep'))) : setI C (.ref d) (.str k 0) v Q m σ := by
  intro o' k' v' eo ek ev
  rw [er_ref eo]
  obtain ⟨t, rfl⟩ := er_str ek
  intro s st
  obtain ⟨xs, hx, e⟩ := dict_at st hd
  have hl : xs.length = kvs.length := by rw [← e]; simp
  refine wpAny_setItem_pairs is_str hx.dictOf (fun h' hd' hs => ?_) (by rw [hl]; exact hz)
  obtain ⟨ep', st', o'⟩ := st.dictTurn hd hd' hs (kvs' := stored kvs k v) (by rw [stored_map, e, ev])
  exact ⟨m, _, h', _, rfl, st', o', h ep'⟩
theorem v_dict0 {pos : Pos} (h : ∀ D, σ D = none → Q (.ref D) m (σ.upd D (.dstr [] 0))) : C.V (eval (.Dict [] [] pos) C.env) Q m σ := by
  intro s st
  refine wpAny_Dict_empty ?_
  obtain ⟨st', o'⟩ := st.made (z := .dstr [] 0) (fun b ob e => Heap.get?_push_of_some _ e) (Nat.le_refl _) (Heap.get?_push_size s.heap (o := { cls := .type "dict", data := .dict #[] }) rfl) ⟨[], ⟨#[], ⟨rfl, rfl, rfl⟩, rfl, by intro e he; simp at he, .nil, by simp⟩, rfl⟩
  exact ⟨m, _, _, s.toks, rfl, st', o', h _ (st.fresh (Nat.le_refl _))⟩
def delI (C : Cx) (o k : Value) (Q : Map → Sto → Prop) (m : Map) (σ : Sto) : Prop := ∀ o' k', er o' = o → er k' = k → C.W (delItem o' k') (fun _ => Q) m σ
theorem without_map {K : Type} [DecidableEq K] (xs : List (K × Value)) (k : K) : (without xs k).map er2 = without (xs.map er2) k := by
  unfold without
  rw [List.filter_map]; rfl
theorem del_d {d : Addr} {kvs : List (Str × Value)} {ep : Nat} {k : Str} {Q : Map → Sto → Prop} (hd : σ d = some (.dstr kvs ep)) (hz : kvs.length ≤ sizeLine) (hk : (valueAt kvs k).isSome = true) (h : ∀ ep', Q m (σ.upd d (.dstr (without kvs k) ep'))) : delI C (.ref d) (.str k 0) Q m σ := by
  intro o' k' eo ek
  rw [er_ref eo]
  obtain ⟨t, rfl⟩ := er_str ek
  intro s st
  obtain ⟨xs, hx, e⟩ := dict_at st hd
  have hl : xs.length = kvs.length := by rw [← e]; simp
  unfold delItem
  try with_reducible refine wpAny_holding ?_
  refine wpAny_bind (wpAny_sequenceKey hx.dictOf.typeIs (by decide) ?_)
  refine wpAny_bind (wpAny_callSpecial?_slot (name := Str.ofString "__delitem__") hx.dictOf.typeIs PySem.F.slot_dict_delitem
    (call_meetsIn PySem.F.slot_dict_delitem hx.dictOf.typeIs PySem.F.entry_dict_delitem (PySem.F.args_dict_delitem_2 _ _) (meets_dict_delitem_pairs (strKind C.prog C.w) d (k := k) is_str) ⟨xs, hx.dictOf, by rw [hl]; exact hz, ?_, fun h' hd' hs => ?_⟩))
  · rw [← e, valueAt_map, Option.isSome_map] at hk
    exact hk
  · obtain ⟨ep', st', o'⟩ := st.dictTurn hd hd' hs (kvs' := without kvs k) (by rw [without_map, e])
    exact wpAny_pure ⟨m, _, h', _, rfl, st', o', h ep'⟩
theorem set_at {h : Heap} {a : Addr} {xs : List Str} (st : C.S h m σ) (e : σ a = some (.sset xs)) (hz : xs.length < scanBound) : h.SetOf (strKind C.prog C.w) a (fun k => decide (k ∈ xs)) xs.length := by
  obtain ⟨o, ho, hs⟩ := st.obj a _ e
  exact hs.setOf ho hz
theorem c_set0 (h : ∀ D, σ D = none → Q (.ref D) m (σ.upd D (.sset []))) : vcall C (.type "set") [] Q m σ := fun args' e => by
  have : args' = [] := by simpa using e
  subst this
  intro s st
  refine call_set_0 fun led => ?_
  obtain ⟨st', o'⟩ := st.made (z := .sset []) (fun b ob e => Heap.get?_push_of_some _ e) (Nat.le_refl _) (Heap.get?_push_size s.heap (o := { cls := .type "set", dict := none, data := .set #[] 0 (.fresh 0 0 led) }) rfl) (by
    have := setObjOf_fresh (prog := C.prog) (w := C.w) (knd := strKind C.prog C.w) led
    show Obj.SetObjOf _ _ _ _
    simpa using this)
  exact ⟨m, _, _, s.toks, rfl, st', o', h _ (st.fresh (Nat.le_refl _))⟩
theorem o_inset {a : Addr} {xs : List Str} {x : Str} (hs : σ a = some (.sset xs)) (hz : xs.length < scanBound) (h : Q (.bool (decide (x ∈ xs))) m σ) : op2 C (compareOp .In) (.str x 0) (.ref a) Q m σ := by
  intro a' b' ea eb
  rw [er_ref eb]
  obtain ⟨t, rfl⟩ := er_str ea
  refine WV.still _ h fun s _ _ st q => ?_
  exact wpAny_inSet_of (k := x) is_str rfl (set_at st hs hz) (q _ _ rfl)
theorem m_set {l : Addr} {xs : List Str} {K : Value → List Value → Map → Sto → Prop} (hl : σ l = some (.sset xs)) (hz : xs.length < scanBound) (h : K (.builtin "set.add") [.ref l] m σ) : getm C (.ref l) "add" K m σ := fun ov pl e => by
  rw [er_ref e]
  intro s st
  exact getMethod_set_add (set_at st hl hz) ⟨m, σ, s.heap, s.toks, rfl, st, Out.refl _ _ _, h⟩
theorem c_setadd {a : Addr} {xs : List Str} {x : Str} (hs : σ a = some (.sset xs)) (hz : xs.length + 1 < scanBound) (hx : x ∉ xs) (h : Q .none m (σ.upd a (.sset (xs ++ [x])))) : vcall C (.builtin "set.add") [.ref a, .str x 0] Q m σ := fun args' e => by
  obtain ⟨b, c, rfl, ea, eb⟩ := inv2 e
  rw [er_ref ea]
  obtain ⟨t, rfl⟩ := er_str eb
  intro s st
  refine call_set_add (k := x) is_str rfl (set_at st hs (by omega)) hz fun h' hb hso => ?_
  obtain ⟨o, ho, hso'⟩ := hso.objOf
  obtain ⟨st', o'⟩ := st.turned (z := .sset (xs ++ [x])) hs hb ho (by
    show Obj.SetObjOf _ _ _ _
    have e1 : (fun k' => decide (k' ∈ xs) || decide (k' = x)) = fun k => decide (k ∈ xs ++ [x]) := by
      funext k; simp
    rw [e1] at hso'
    simpa [hx] using hso')
  exact ⟨m, _, h', _, rfl, st', o', h⟩
end
end
section
theorem handed_er {v : Value} (h : handedIn (er v) = true) : handedIn v = true := by cases v <;> first | exact h | rfl
theorem er_strE {v : Value} {x : Str} (h : er v = .str x 0) (y : Str) : v.isStr y = (x == y) := by
  obtain ⟨t, rfl⟩ := er_str h
  rfl
theorem es_find {name : Str} : ∀ {es : List DictEntry} {kvs : List (Str × Value)}, EsAre es kvs → (es.find? (·.key.isStr name)).map (fun e => er e.val) = kvs.lookup name
  | [], [], _ => rfl
  | [], _ :: _, h => by simp [EsAre] at h
  | _ :: _, [], h => by simp [EsAre] at h
  | e :: es, p :: kvs, h => by
    simp only [EsAre, List.map_cons, List.cons.injEq, Prod.mk.injEq] at h
    obtain ⟨⟨h1, h2⟩, h3⟩ := h
    have hk := er_strE h1 name
    obtain ⟨x, v⟩ := p
    simp only [List.find?_cons, List.lookup_cons, hk]
    have e1 : (x == name) = (name == x) := by
      by_cases q : x = name
      · subst q; rfl
      · rw [beq_eq_false_iff_ne.mpr q, beq_eq_false_iff_ne.mpr (Ne.symm q)]
    cases h4 : (name == x)
    · rw [e1, h4]
      exact es_find h3
    · rw [e1, h4]
      simp [h2]
theorem es_noref {es : List DictEntry} {kvs : List (Str × Value)} (h : EsAre es kvs) : es.any (·.refKey) = false := by
  rw [List.any_eq_false]
  intro e he
  have hm : (er e.key, er e.val) ∈ kvs.map (fun p => (Value.str p.1 0, p.2)) := h ▸ List.mem_map_of_mem he
  obtain ⟨p, _, hp⟩ := List.mem_map.mp hm
  obtain ⟨t, ht⟩ := er_str (Prod.mk.inj hp).1.symm
  unfold DictEntry.refKey
  rw [ht]; simp
theorem es_get {es : List DictEntry} {kvs : List (Str × Value)} {name : Str} {v : Value} (h : EsAre es kvs) (e : kvs.lookup name = some v) : ∃ v', getL name es = some (some v') ∧ er v' = v := by
  rw [← es_find h, Option.map_eq_some_iff] at e
  obtain ⟨en, h1, h2⟩ := e
  exact ⟨en.val, by unfold getL; rw [h1], h2⟩
theorem es_get_none {es : List DictEntry} {kvs : List (Str × Value)} {name : Str} (h : EsAre es kvs) (e : kvs.lookup name = none) : getL name es = some none := by
  rw [← es_find h, Option.map_eq_none_iff] at e
  unfold getL
  rw [e]
  simp only
  rw [if_neg (by rw [es_noref h]; simp)]
theorem es_some {es : List DictEntry} {kvs : List (Str × Value)} {name : Str} (h : EsAre es kvs) : (getL name es).isSome = true := by
  cases e : kvs.lookup name with
  | none => rw [es_get_none h e]; rfl
  | some v => obtain ⟨v', h1, _⟩ := es_get h e; rw [h1]; rfl
def putKV (name : Str) (v : Value) : List (Str × Value) → List (Str × Value)
  | [] => [(name, v)]
  | p :: r => if p.1 == name then (p.1, v) :: r else p :: putKV name v r
theorem es_put {name : Str} {hsh : Int} {t : Tok} {v : Value} : ∀ {es : List DictEntry} {kvs : List (Str × Value)}, EsAre es kvs → EsAre (putL name hsh (.str name t) v es) (putKV name (er v) kvs)
  | [], [], _ => rfl
  | [], _ :: _, h => by simp [EsAre] at h
  | _ :: _, [], h => by simp [EsAre] at h
  | e :: es, p :: kvs, h => by
    have h0 := h
    simp only [EsAre, List.map_cons, List.cons.injEq, Prod.mk.injEq] at h
    obtain ⟨⟨h1, h2⟩, h3⟩ := h
    have hk := er_strE h1 name
    unfold putL putKV
    rw [hk]
    split
    · simp only [EsAre, List.map_cons, h1]
      rw [h3]
    · have := es_put (name := name) (hsh := hsh) (t := t) (v := v) h3
      simp only [EsAre] at this
      simp only [EsAre, List.map_cons, h1, h2, this]
theorem es_len {es : List DictEntry} {kvs : List (Str × Value)} (h : EsAre es kvs) : es.length = kvs.length := by
  have := congrArg List.length h
  simpa using this
section
variable {C : Cx} {m : Map} {σ : Sto} {Q : Value → Map → Sto → Prop}
def InstS (σ : Sto) (x dx cl : Addr) (kvs : List (Str × Value)) : Prop := σ x = some (.raw (instObj cl dx)) ∧ σ dx = some (.attrs kvs)
theorem inst_at {h : Heap} {x dx cl : Addr} {kvs : List (Str × Value)} (st : C.S h m σ) (i : InstS σ x dx cl kvs) : ∃ es n, InstAt h x (instObj cl dx) cl (some (dictOf es n)) ∧ h.get? dx = some (dictOf es n) ∧ EsAre es kvs := by
  obtain ⟨o, ho, e⟩ := st.obj _ _ i.1
  obtain ⟨o2, ho2, es, n, rfl, he⟩ := st.obj _ _ i.2
  have e' : o = instObj cl dx := e
  subst e'
  exact ⟨es, n, ⟨ho, rfl, rfl, ho2⟩, ho2, he⟩
def geta (C : Cx) (ov : Value) (name : Str) (Q : Value → Map → Sto → Prop) (m : Map) (σ : Sto) : Prop := ∀ ov', er ov' = ov → C.V (getAttr ov' name true) Q m σ
def seta (C : Cx) (ov : Value) (name : Str) (v : Value) (Q : Map → Sto → Prop) (m : Map) (σ : Sto) : Prop := ∀ ov' v', er ov' = ov → er v' = v → C.W (setAttr ov' name v') (fun _ => Q) m σ
@[reducible] noncomputable def k_v_attr1 (C : Cx) (name : Str) (Q : Value → Map → Sto → Prop) := fun (ov : Value) (m₁ : Map) (σ₁ : Sto) => geta C ov name Q m₁ σ₁
theorem v_attr {value : Expr} {name : Str} {pos : Pos} (h : C.V (eval value C.env) (k_v_attr1 C name Q) m σ) (ht : ∀ o r, letTemporaryGo value o r = pure () := by intro _ _; rfl)
    (he : eval (.Attribute value name pos) C.env = (do let o ← eval value C.env; standAt pos.atName; let r ← holding [o] (getAttr o name true); letTemporaryGo value o r; pure r) := by with_unfolding_all rfl) : C.V (eval (.Attribute value name pos) C.env) Q m σ := by
  rw [he]
  refine WE.bind (WE.mono1 h fun o _ _ q => WE.bind (WE.standAt (WE.bind (WE.holding (WE.mono1 (q o rfl) fun r _ _ q => ?_)))))
  rw [ht]
  exact WE.bind (WE.pure (WE.pure q))
theorem a_own {K : Frag} (X : K.In C.h₀) {x dx cl : Addr} {kvs : List (Str × Value)} {name : Str} {attr : Option Value} {v : Value} (i : InstS σ x dx cl kvs) (hv : kvs.lookup name = some v) (h : Q v m σ)
    (hg : plainGet K cl name = true) (hh : hasDictIn K cl = true) (ha : findIn K (.ref cl) name = some attr) (hn : noGet K attr = true) (hvn : handedIn v = true) : geta C (.ref x) name Q m σ := by
  intro ov' e
  rw [er_ref e]
  refine WV.still _ h fun s _ _ st q => ?_
  obtain ⟨es, n, I, hdx, he⟩ := inst_at st i
  obtain ⟨v', h1, h2⟩ := es_get he hv
  exact get_value (X.keeps st.keep) I (plainGet_of hg).1 (findObj_own hh ha hn h1) (handed_er (by rw [h2]; exact hvn)) (q _ _ h2)
theorem a_meth {K : Frag} (X : K.In C.h₀) {x dx cl f : Addr} {kvs : List (Str × Value)} {name : Str} {P : Value → List Value → Map → Sto → Prop} (i : InstS σ x dx cl kvs) (hv : kvs.lookup name = none) (h : P (.ref f) [.ref x] m σ)
    (hg : plainGet K cl name = true) (hf : findIn K (.ref cl) name = some (some (.ref f))) (ht : isFn K (.ref f) = true) : getm C (.ref x) name P m σ := by
  intro ov' pl e
  rw [er_ref e]
  intro s st
  obtain ⟨es, n, I, hdx, he⟩ := inst_at st i
  exact method_fn (X.keeps st.keep) I (plainGet_of hg).1 (plainGet_of hg).2 hf (beq_iff_eq.mp ht) (by show (lookIn name (dictOf es n)).map _ = _; rw [lookIn_dict, es_get_none he hv]; rfl) ⟨m, σ, s.heap, s.toks, rfl, st, Out.refl _ _ _, h⟩
noncomputable def beside (h₀ : Heap) (L x : Addr) (h : Heap) : List (Addr × Obj) :=
  (List.range h.objs.size).filterMap fun b => if b = x ∨ b = L ∨ h₀.get? b ≠ none then none else (h.get? b).map fun o => (b, o)
theorem mem_beside {h₀ h : Heap} {L x : Addr} {p : Addr × Obj} : p ∈ beside h₀ L x h ↔ h.get? p.1 = some p.2 ∧ p.1 ≠ x ∧ p.1 ≠ L ∧ h₀.get? p.1 = none := by
  unfold beside
  rw [List.mem_filterMap]
  constructor
  · rintro ⟨b, _, hb⟩
    split at hb
    · cases hb
    · rename_i hn
      obtain ⟨o, ho, rfl⟩ := Option.map_eq_some_iff.mp hb
      refine ⟨ho, fun q => hn (.inl q), fun q => hn (.inr (.inl q)), ?_⟩
      cases q : h₀.get? b with
      | none => rfl
      | some _ => exact absurd (.inr (.inr (by rw [q]; intro c; cases c))) hn
  · rintro ⟨h1, h2, h3, h4⟩
    refine ⟨p.1, List.mem_range.mpr (Heap.lt_size h1), ?_⟩
    rw [if_neg (by rw [h4]; simp [h2, h3]), h1]
    rfl
theorem St.frOf {h : Heap} (st : C.S h m σ) : ∃ mc, (∀ y, (mc y).map er = m y) ∧ Fr C.h₀ C.env.locals h mc :=
  let ⟨mc, a, b⟩ := st.ns; ⟨mc, b, a, st.keep, st.above⟩
theorem St.newsOf {h : Heap} {x : Addr} {y : AO} {o : Obj} (st : C.S h m σ) (e : σ x = some y) (g : h.get? x = some o) : News C.h₀ C.env.locals h (beside C.h₀ C.env.locals x h ++ (x, o) :: []) := by
  intro p hp
  rcases List.mem_append.mp hp with q | q
  · obtain ⟨h1, _, h3, h4⟩ := mem_beside.mp q
    exact ⟨h1, h3, h4⟩
  · rw [List.mem_singleton] at q
    subst q
    exact ⟨g, st.ne e, st.young e⟩
theorem St.viaNews {h h' : Heap} {x : Addr} {y z : AO} {o' : Obj} {mc : Str → Option Value} (st : C.S h m σ) (e : σ x = some y) (hm : ∀ y, (mc y).map er = m y) (F' : Fr C.h₀ C.env.locals h' mc)
    (N' : News C.h₀ C.env.locals h' (beside C.h₀ C.env.locals x h ++ (x, o') :: [])) (i : IsO C.prog C.w z o') : C.S h' m (σ.upd x z) ∧ Out C.env.locals σ h (σ.upd x z) h' := by
  have keep : ∀ b o, h.get? b = some o → b ≠ x → b ≠ C.env.locals → h'.get? b = some o := by
    intro b o hb h1 h2
    cases q : C.h₀.get? b with
    | none => exact (N' (b, o) (List.mem_append_left _ (mem_beside.mpr ⟨hb, h1, h2, q⟩))).1
    | some o₂ =>
      have := st.keep _ _ q
      rw [hb] at this
      cases this
      exact F'.keep _ _ q
  have hL : C.env.locals ≠ x := fun q => st.ne e q.symm
  have nx : ∀ b, σ b = none → b ≠ x := fun b n q => by rw [q, e] at n; cases n
  have oo : Out C.env.locals σ h (σ.upd x z) h' := fun b o hb n ne => ⟨.of (keep b o hb (nx b n) ne), by rw [Sto.upd_ne (nx b n)]; exact n⟩
  refine ⟨st.next (fun b o e0 _ => F'.keep b o e0) oo ⟨mc, F'.ns, hm⟩ (by rw [Sto.upd_ne hL]; exact st.off) (fun b u eb => ?_) fun b hb => ?_, oo⟩
  · by_cases q : b = x
    · subst q
      rw [Sto.upd_same] at eb
      cases eb
      exact ⟨o', (N' (b, o') (by simp)).1, i⟩
    · rw [Sto.upd_ne q] at eb
      obtain ⟨ob, g, is⟩ := st.obj b u eb
      exact ⟨ob, keep b ob g q (st.ne eb), is⟩
  · by_cases q : b = x
    · subst q
      exact st.old b (by rw [e]; intro c; cases c)
    · rw [Sto.upd_ne q] at hb
      exact st.old b hb
theorem upd_pre {d : Addr} {o o' : Obj} : ∀ {l : List (Addr × Obj)}, (∀ p ∈ l, p.1 ≠ d) → Upd d o o' (l ++ (d, o) :: []) (l ++ (d, o') :: [])
  | [], _ => .head (fun _ h => nomatch h)
  | p :: r, h => .tail (h p (.head _)) (upd_pre fun q hq => h q (.tail _ hq))
theorem beside_ne {h₀ h : Heap} {L x : Addr} : ∀ p ∈ beside h₀ L x h, p.1 ≠ x := fun p hp => (mem_beside.mp hp).2.1
theorem a_set {K : Frag} (X : K.In C.h₀) {x dx cl : Addr} {kvs : List (Str × Value)} {name : Str} {v : Value} {Q : Map → Sto → Prop} (i : InstS σ x dx cl kvs) (hz : kvs.length ≤ 500) (h : Q m (σ.upd dx (.attrs (putKV name v kvs))))
    (hs : findIn K (.ref cl) "__setattr__" = some (some (.builtin "object.__setattr__"))) (hp : plainOver K cl = true) (ht : takerIn K cl name = some none) (hh : hasDictIn K cl = true) : seta C (.ref x) name v Q m σ := by
  intro ov' v' e ev
  rw [er_ref e]
  intro s st
  obtain ⟨es, n, I, hdx, he⟩ := inst_at st i
  obtain ⟨mc, hm, F⟩ := st.frOf
  have hlen : (putL name (PyData.keyHash C.w.params name) (.str name (s.toks + 1)) v' es).length ≤ 1000 := by
    have h1 := es_len (es_put (name := name) (hsh := PyData.keyHash C.w.params name) (t := s.toks + 1) (v := v') he)
    have h2 : ∀ l : List (Str × Value), (putKV name (er v') l).length ≤ l.length + 1 := by
      intro l
      induction l with
      | nil => simp [putKV]
      | cons p r ih =>
        unfold putKV
        split
        · simp
        · simp only [List.length_cons]; omega
    have := h2 kvs
    omega
  refine set_dict F X (st.newsOf i.2 hdx) I rfl hs hp ht hh (es_some he) rfl (upd_pre beside_ne) hlen fun h' F' N' => ?_
  obtain ⟨st', o'⟩ := st.viaNews i.2 hm F' N' (z := .attrs (putKV name v kvs)) ⟨_, _, rfl, by rw [← ev]; exact es_put he⟩
  exact ⟨m, _, _, _, rfl, st', o', h⟩
def SlotS (σ : Sto) (x dx cl : Addr) (vs : List (Option Value)) : Prop := σ x = some (.slots cl dx vs) ∧ σ dx = some (.raw emptyDict)
theorem slot_at {h : Heap} {x dx cl : Addr} {vs : List (Option Value)} (st : C.S h m σ) (i : SlotS σ x dx cl vs) : ∃ sl, InstAt h x ⟨.ref cl, some dx, .plain, sl⟩ cl (some emptyDict) ∧ sl.toList.map (Option.map er) = vs := by
  obtain ⟨o, ho, sl, rfl, e⟩ := st.obj _ _ i.1
  obtain ⟨o2, ho2, e2⟩ := st.obj _ _ i.2
  have e2' : o2 = emptyDict := e2
  subst e2'
  exact ⟨sl, ⟨ho, rfl, rfl, ho2⟩, e⟩
theorem sl_get {sl : Array (Option Value)} {vs : List (Option Value)} (e : sl.toList.map (Option.map er) = vs) {i : Nat} {v : Value} (h : vs[i]? = some (some v)) : ∃ v', (sl[i]?).join = some v' ∧ er v' = v := by
  rw [← e, List.getElem?_map, Option.map_eq_some_iff] at h
  obtain ⟨o, h1, h2⟩ := h
  obtain ⟨v', rfl, h3⟩ := Option.map_eq_some_iff.mp h2
  exact ⟨v', by rw [← Array.getElem?_toList, h1]; rfl, h3⟩
theorem a_slot {K : Frag} (X : K.In C.h₀) {x dx cl p : Addr} {vs : List (Option Value)} {name : Str} {k : Nat} {v : Value} (i : SlotS σ x dx cl vs) (hv : vs[k]? = some (some v)) (h : Q v m σ)
    (hg : plainGet K cl name = true) (hc : isClsIn K cl = true) (ha : findIn K (.ref cl) name = some (some (.ref p))) (hn : specialIn K (.ref p) "__get__" = some (some (.builtin "member_descriptor.__get__")))
    (ht : takesIn K (.ref p) = some true) (hp : slotIn K p cl = some k) (hh : handedIn v = true) : geta C (.ref x) name Q m σ := by
  intro ov' e
  rw [er_ref e]
  refine WV.still _ h fun s _ _ st q => ?_
  obtain ⟨sl, I, e⟩ := slot_at st i
  obtain ⟨v', h1, h2⟩ := sl_get e hv
  exact get_bind (X.keeps st.keep) I (plainGet_of hg).1 (findObj_data hc ha hn ht) (plainGet_of hg).2 (wpAny_call (slot_get (s := { s with toks := s.toks + 1 }) (X.keeps st.keep) I hp h1 (handed_on (handed_er (by rw [h2]; exact hh)) (q v' _ h2))))
def setSlot (vs : List (Option Value)) (k : Nat) (v : Value) : List (Option Value) := (vs ++ List.replicate (k + 1 - vs.length) none).set k (some v)
theorem a_slotset {K : Frag} (X : K.In C.h₀) {x dx cl p : Addr} {vs : List (Option Value)} {name : Str} {k : Nat} {v : Value} {Q : Map → Sto → Prop} (i : SlotS σ x dx cl vs) (h : Q m (σ.upd x (.slots cl dx (setSlot vs k v))))
    (hs : findIn K (.ref cl) "__setattr__" = some (some (.builtin "object.__setattr__"))) (hp : plainOver K cl = true) (ht : takerIn K cl name = some (some (.ref p))) (hT : typeIn K (.ref p) = some (.type "member_descriptor")) (hi : slotIn K p cl = some k) (hz : k < 1000) : seta C (.ref x) name v Q m σ := by
  intro ov' v' e ev
  rw [er_ref e]
  intro s st
  obtain ⟨sl, I, e⟩ := slot_at st i
  obtain ⟨mc, hm, F⟩ := st.frOf
  refine set_slot F X (st.newsOf i.1 I.at_) I hs hp ht hT hi hz rfl rfl (upd_pre beside_ne) fun h' F' N' => ?_
  obtain ⟨st', o'⟩ := st.viaNews i.1 hm F' N' (z := .slots cl dx (setSlot vs k v)) ⟨_, rfl, by
    have hl : vs.length = sl.size := by rw [← e]; simp
    unfold setSlot
    simp only [Array.toList_setIfInBounds, Array.toList_append, Array.toList_replicate, List.map_set, List.map_append, List.map_replicate, Option.map_some, Option.map_none, e, ev, hl]⟩
  exact ⟨m, _, _, _, rfl, st', o', h⟩
end
end
section
section
variable {C : Cx} {m : Map} {σ : Sto}
@[reducible] noncomputable def k_s_setattr1 (C : Cx) (name : Str) (v) (Q : Flow → Map → Sto → Prop) := fun (ov : Value) (m₂ : Map) (σ₂ : Sto) => seta C ov name v (Q .next) m₂ σ₂
@[reducible] noncomputable def k_s_setattr2 (C : Cx) (o : Expr) (name : Str) (Q : Flow → Map → Sto → Prop) := fun v (m₁ : Map) (σ₁ : Sto) => C.V (eval o C.env) (k_s_setattr1 C name v Q) m₁ σ₁
theorem s_setattr {o value : Expr} {name : Str} {p pos : Pos} {Q : Flow → Map → Sto → Prop} (h : C.V (eval value C.env) (k_s_setattr2 C o name Q) m σ)
    (hs : swapsWith value (some (.Attribute o name p)) pos.line C.env = pure false := by rfl) : C.W (exec (.Assign [.Attribute o name p] value pos) C.env) Q m σ := by
  intro s st
  refine plainObj_wpAny_Assign_Attribute (wpAny_mono (h s st) (fun v s₁ p => ?_) fun _ _ e => e) hs
  obtain ⟨m₁, σ₁, h₁, t₁, rfl, st₁, o₁, q⟩ := p
  refine wpAny_mono (q _ st₁) (fun ov s₂ p => ?_) fun _ _ p => PostW.trans o₁ p
  obtain ⟨m₂, σ₂, h₂, t₂, rfl, st₂, o₂, q⟩ := p
  exact wpAny_mono (q ov v rfl rfl _ st₂) (fun _ _ p => PostW.conv (PostW.trans (o₁.trans o₂) p) fun _ _ q => q) fun _ _ p => PostW.trans (o₁.trans o₂) p
@[reducible] noncomputable def k_s_setitem1 (C : Cx) (ov) (v) (Q : Flow → Map → Sto → Prop) := fun iv (m₃ : Map) (σ₃ : Sto) => setI C ov iv v (Q .next) m₃ σ₃
@[reducible] noncomputable def k_s_setitem2 (C : Cx) (i : Expr) (v) (Q : Flow → Map → Sto → Prop) := fun (ov : Value) (m₂ : Map) (σ₂ : Sto) => C.V (eval i C.env) (k_s_setitem1 C ov v Q) m₂ σ₂
@[reducible] noncomputable def k_s_setitem3 (C : Cx) (o : Expr) (i : Expr) (Q : Flow → Map → Sto → Prop) := fun v (m₁ : Map) (σ₁ : Sto) => C.V (eval o C.env) (k_s_setitem2 C i v Q) m₁ σ₁
theorem s_setitem {o i value : Expr} {p pos : Pos} {Q : Flow → Map → Sto → Prop} (h : C.V (eval value C.env) (k_s_setitem3 C o i Q) m σ)
    (hs : swapsWith value (some (.Subscript o i p)) pos.line C.env = pure false := by rfl) (hr : assign (.Subscript o i p) C.env = fun v => (do let ov ← holding [v] (eval o C.env); let iv ← holding [v, ov] (eval i C.env); standAt p; holding [v, ov, iv] (setItem ov iv v); release [v, ov, iv] []) := by rfl) : C.W (exec (.Assign [.Subscript o i p] value pos) C.env) Q m σ := by
  intro s st
  refine wpAny_Assign_Subscript (wpAny_mono (h s st) (fun v s₁ p => ?_) fun _ _ e => e) hs
  obtain ⟨m₁, σ₁, h₁, t₁, rfl, st₁, o₁, q⟩ := p
  refine wpAny_mono (q _ st₁) (fun ov s₂ p => ?_) fun _ _ p => PostW.trans o₁ p
  obtain ⟨m₂, σ₂, h₂, t₂, rfl, st₂, o₂, q⟩ := p
  refine wpAny_mono (q _ st₂) (fun iv s₃ p => ?_) fun _ _ p => PostW.trans (o₁.trans o₂) p
  obtain ⟨m₃, σ₃, h₃, t₃, rfl, st₃, o₃, q⟩ := p
  exact wpAny_mono (q ov iv v rfl rfl rfl _ st₃) (fun _ _ p => PostW.conv (PostW.trans ((o₁.trans o₂).trans o₃) p) fun _ _ q => q) fun _ _ p => PostW.trans ((o₁.trans o₂).trans o₃) p
@[reducible] noncomputable def k_s_augattr1 (C : Cx) (ov) (name : Str) (Q : Flow → Map → Sto → Prop) := fun new (m₄ : Map) (σ₄ : Sto) => seta C ov name new (Q .next) m₄ σ₄
@[reducible] noncomputable def k_s_augattr2 (C : Cx) (op : Operator) (old) (ov) (name : Str) (Q : Flow → Map → Sto → Prop) := fun v (m₃ : Map) (σ₃ : Sto) => op2 C (inplaceOp op) old v (k_s_augattr1 C ov name Q) m₃ σ₃
@[reducible] noncomputable def k_s_augattr3 (C : Cx) (value : Expr) (op : Operator) (ov) (name : Str) (Q : Flow → Map → Sto → Prop) := fun old (m₂ : Map) (σ₂ : Sto) => C.V (eval value C.env) (k_s_augattr2 C op old ov name Q) m₂ σ₂
@[reducible] noncomputable def k_s_augattr4 (C : Cx) (name : Str) (value : Expr) (op : Operator) (Q : Flow → Map → Sto → Prop) := fun (ov : Value) (m₁ : Map) (σ₁ : Sto) => geta C ov name (k_s_augattr3 C value op ov name Q) m₁ σ₁
theorem s_augattr {o value : Expr} {name : Str} {p pos : Pos} {op : Operator} {Q : Flow → Map → Sto → Prop} (h : C.V (eval o C.env) (k_s_augattr4 C name value op Q) m σ) :
    C.W (exec (.AugAssign (.Attribute o name p) op value pos) C.env) Q m σ := by
  intro s st
  refine wpAny_AugAssign_AttributeAny (wpAny_mono (h s st) (fun ov s₁ p => ?_) fun _ _ e => e)
  obtain ⟨m₁, σ₁, h₁, t₁, rfl, st₁, o₁, q⟩ := p
  refine wpAny_mono (q ov rfl _ st₁) (fun old s₂ p => ?_) fun _ _ p => PostW.trans o₁ p
  obtain ⟨m₂, σ₂, h₂, t₂, rfl, st₂, o₂, q⟩ := p
  refine wpAny_mono (q _ st₂) (fun v s₃ p => ?_) fun _ _ p => PostW.trans (o₁.trans o₂) p
  obtain ⟨m₃, σ₃, h₃, t₃, rfl, st₃, o₃, q⟩ := p
  refine wpAny_mono (q old v rfl rfl _ st₃) (fun new s₄ p => ?_) fun _ _ p => PostW.trans ((o₁.trans o₂).trans o₃) p
  obtain ⟨m₄, σ₄, h₄, t₄, rfl, st₄, o₄, q⟩ := p
  exact wpAny_mono (q ov new rfl rfl _ st₄) (fun _ _ p => PostW.conv (PostW.trans (((o₁.trans o₂).trans o₃).trans o₄) p) fun _ _ q => q) fun _ _ p => PostW.trans (((o₁.trans o₂).trans o₃).trans o₄) p
@[reducible] noncomputable def k_s_del1 (C : Cx) (ov) (Q : Flow → Map → Sto → Prop) := fun iv (m₂ : Map) (σ₂ : Sto) => delI C ov iv (Q .next) m₂ σ₂
@[reducible] noncomputable def k_s_del2 (C : Cx) (i : Expr) (Q : Flow → Map → Sto → Prop) := fun (ov : Value) (m₁ : Map) (σ₁ : Sto) => C.V (eval i C.env) (k_s_del1 C ov Q) m₁ σ₁
theorem s_del {o i : Expr} {p pos : Pos} {Q : Flow → Map → Sto → Prop} (h : C.V (eval o C.env) (k_s_del2 C i Q) m σ) : C.W (exec (.Delete [.Subscript o i p] pos) C.env) Q m σ := by
  intro s st
  refine wpAny_Delete ?_
  show wpAny _ _ (delete (.Subscript o i p) C.env >>= fun _ => pure ()) _ _ _
  refine wpAny_bind (wpAny_delete_Subscript (wpAny_mono (h s st) (fun ov s₁ p => ?_) fun _ _ e => e))
  obtain ⟨m₁, σ₁, h₁, t₁, rfl, st₁, o₁, q⟩ := p
  refine wpAny_mono (q _ st₁) (fun iv s₂ p => ?_) fun _ _ p => PostW.trans o₁ p
  obtain ⟨m₂, σ₂, h₂, t₂, rfl, st₂, o₂, q⟩ := p
  exact wpAny_mono (q ov iv rfl rfl _ st₂) (fun _ _ p => wpAny_pure (PostW.conv (PostW.trans (o₁.trans o₂) p) fun _ _ q => q)) fun _ _ p => PostW.trans (o₁.trans o₂) p
def asg (C : Cx) (t : Expr) (v : Value) (Q : Map → Sto → Prop) (m : Map) (σ : Sto) : Prop := ∀ v', er v' = v → C.W (assign t C.env v') (fun _ => Q) m σ
theorem asg_name {x : Str} {p : Pos} {v : Value} {Q : Map → Sto → Prop} (h : put1 C x v Q m σ) : asg C (.Name x p) v Q m σ := fun v' e => tgt_name e h
@[reducible] noncomputable def k_asg_sub1 (C : Cx) (ov) (v : Value) (Q : Map → Sto → Prop) := fun iv (m₃ : Map) (σ₃ : Sto) => setI C ov iv v Q m₃ σ₃
@[reducible] noncomputable def k_asg_sub2 (C : Cx) (i : Expr) (v : Value) (Q : Map → Sto → Prop) := fun (ov : Value) (m₂ : Map) (σ₂ : Sto) => C.V (eval i C.env) (k_asg_sub1 C ov v Q) m₂ σ₂
theorem asg_sub {o i : Expr} {p : Pos} {v : Value} {Q : Map → Sto → Prop} (h : C.V (eval o C.env) (k_asg_sub2 C i v Q) m σ)
    (hr : ∀ v, assign (.Subscript o i p) C.env v = (do let ov ← holding [v] (eval o C.env); let iv ← holding [v, ov] (eval i C.env); standAt p; holding [v, ov, iv] (setItem ov iv v); release [v, ov, iv] []) := by intro _; rfl) : asg C (.Subscript o i p) v Q m σ := fun v' e => by
  rw [hr]
  exact WE.bind (WE.holding (WE.mono1 h fun ov _ _ q => WE.bind (WE.holding (WE.mono1 q fun iv _ _ q => WE.bind (WE.standAt (WE.bind (WE.holding (WE.mono1 (q ov iv v' rfl rfl e) fun _ _ _ q s st => wpAny_release ⟨_, _, s.heap, s.toks, rfl, st, Out.refl _ _ _, q⟩))))))))
@[reducible] noncomputable def k_s_two1 (C : Cx) (t₂ : Expr) (v) (Q : Flow → Map → Sto → Prop) := fun (m₂ : Map) (σ₂ : Sto) => asg C t₂ v (Q .next) m₂ σ₂
@[reducible] noncomputable def k_s_two2 (C : Cx) (t₁ : Expr) (t₂ : Expr) (Q : Flow → Map → Sto → Prop) := fun v (m₁ : Map) (σ₁ : Sto) => asg C t₁ v (k_s_two1 C t₂ v Q) m₁ σ₁
theorem s_two {t₁ t₂ value : Expr} {pos : Pos} {Q : Flow → Map → Sto → Prop} (h : C.V (eval value C.env) (k_s_two2 C t₁ t₂ Q) m σ)
    (he : (assignEach [t₁, t₂] C.env).map (·.2) = [assign t₁ C.env, assign t₂ C.env] := by rfl) (hw : swappedStores [t₁, t₂] value C.env = pure none := by rfl) : C.W (exec (.Assign [t₁, t₂] value pos) C.env) Q m σ := by
  intro s st
  refine wpAny_Assign_two (wpAny_mono (h s st) (fun v s₁ p => ?_) fun _ _ e => e) he hw
  obtain ⟨m₁, σ₁, h₁, t₁, rfl, st₁, o₁, q⟩ := p
  refine wpAny_mono (q v rfl _ st₁) (fun _ s₂ p => ?_) fun _ _ p => PostW.trans o₁ p
  obtain ⟨m₂, σ₂, h₂, t₂, rfl, st₂, o₂, q⟩ := p
  exact wpAny_mono (q v rfl _ st₂) (fun _ _ p => PostW.conv (PostW.trans (o₁.trans o₂) p) fun _ _ q => q) fun _ _ p => PostW.trans (o₁.trans o₂) p
@[reducible] noncomputable def k_asg_tup21 (C : Cx) (e₂ : Expr) (v₂ : Value) (Q : Map → Sto → Prop) := fun (m₁ : Map) (σ₁ : Sto) => asg C e₂ v₂ Q m₁ σ₁
theorem asg_tup2 {e₁ e₂ : Expr} {k : Nat} {p : Pos} {t : Addr} {v₁ v₂ : Value} {Q : Map → Sto → Prop} (hh : C.A.handled = none) (ht : σ t = some (.tup [v₁, v₂])) (h : asg C e₁ v₁ (k_asg_tup21 C e₂ v₂ Q) m σ)
    (hn : assignEach [e₁, e₂] C.env = [(false, assign e₁ C.env), (false, assign e₂ C.env)] := by rfl) : asg C (.Tuple [e₁, e₂] k p) (.ref t) Q m σ := fun v' e => by
  rw [er_ref e]
  intro s st
  obtain ⟨its, n, hi, ev⟩ := tup_at st ht
  have z := its_size ev
  refine wpAny_assign_Tuple hh ⟨_, hi, rfl, n, rfl⟩ (by rw [hn, z]; rfl) (by rw [hn]; rfl) fun h' hx => ?_
  rw [hn]
  obtain ⟨a, b, hl, ea, eb⟩ := inv2 ev
  rw [hl]
  obtain ⟨st₁, o₁⟩ := st.grown fun b o e => hx b o (Nat.ne_of_lt (Heap.lt_size e)) e
  show wpAny _ _ (do holding [b] (assign e₁ C.env a); assignInOrder [assign e₂ C.env] [b]) _ _ _
  refine wpAny_bind (wpAny_holding (wpAny_mono (h a ea { s with heap := h' } st₁) (fun _ s₂ p => ?_) fun _ _ p => PostW.trans (t₁ := s.toks) o₁ p))
  obtain ⟨m₂, σ₂, h₂, t₂, rfl, st₂, o₂, q⟩ := p
  show wpAny _ _ (do holding [] (assign e₂ C.env b); pure ()) _ _ _
  exact wpAny_bind (wpAny_holding (wpAny_mono (q b eb _ st₂) (fun _ _ p => wpAny_pure (PostW.conv (PostW.trans (o₁.trans o₂) p) fun _ _ q => q)) fun _ _ p => PostW.trans (o₁.trans o₂) p))
@[reducible] noncomputable def k_v_walrus1 (C : Cx) (x) (Q : Value → Map → Sto → Prop) := fun v (m₁ : Map) (σ₁ : Sto) => put1 C x v (Q v) m₁ σ₁
theorem v_walrus {x p value pos} {Q : Value → Map → Sto → Prop} (h : C.V (eval value C.env) (k_v_walrus1 C x Q) m σ) : C.V (eval (.NamedExpr (.Name x p) value pos) C.env) Q m σ :=
  v_named (WE.mono1 h fun v _ _ q v' e => q v' e)
end
end
section
section
variable {prog : Program} {w : World} {h₀ : Heap}
theorem Rep.made {A : Around} {h : Heap} {σ : Sto} (x : Rep prog w h₀ A h σ) {z : AO} {o : Obj} (i : IsO prog w z o) (hf : o.isFreed = false) : Rep prog w h₀ A (h.push o) (σ.upd h.objs.size z) ∧ OutC σ h (σ.upd h.objs.size z) (h.push o) := by
  have hn : ∀ b ob, h.get? b = some ob → b ≠ h.objs.size := fun b ob eb q => absurd (Heap.lt_size eb) (by rw [q]; exact Nat.lt_irrefl _)
  have oo : OutC σ h (σ.upd h.objs.size z) (h.push o) := fun b ob eb n => ⟨.of (Heap.get?_push_of_some _ eb), by rw [Sto.upd_ne (hn b ob eb)]; exact n⟩
  refine ⟨x.next (fun b ob _ e => Heap.get?_push_of_some _ e) oo (by rw [Heap.size_push]; exact Nat.le_succ_of_le x.big) (fun b u eb => ?_) fun b hb => ?_, oo⟩
  · by_cases q : b = h.objs.size
    · subst q
      rw [Sto.upd_same] at eb
      cases eb
      exact ⟨o, Heap.get?_push_size h hf, i⟩
    · rw [Sto.upd_ne q] at eb
      obtain ⟨ob, g, is⟩ := x.obj b u eb
      exact ⟨ob, Heap.get?_push_of_some _ g, is⟩
  · by_cases q : b = h.objs.size
    · subst q; exact x.big
    · rw [Sto.upd_ne q] at hb
      exact x.old b hb
theorem Rep.fresh {A : Around} {h : Heap} {σ : Sto} (x : Rep prog w h₀ A h σ) {a : Addr} (hf : h.objs.size ≤ a) : σ a = none := by
  cases e : σ a with
  | none => rfl
  | some y => exact absurd (x.lt e) (Nat.not_lt.mpr hf)
theorem fn_make {K : Frag} (X : K.In h₀) {cl fI : Addr} {args : List Value} {k : Nat} {Q : Value → Sto → Prop} {σ : Sto} (zd zi : Addr → AO) (hzd : ∀ d, IsO prog w (zd d) emptyDict) (hzi : ∀ d, IsO prog w (zi d) (instObj cl d))
    (h : ∀ x dx, σ x = none → σ dx = none → x ≠ dx → Fn prog w h₀ k (.ref fI) (.ref x :: args) (fun v σ' => v = .none ∧ Q (.ref x) σ') botF ((σ.upd dx (zd dx)).upd x (zi dx)))
    (hm : makesIn K cl = true) (hi : findIn K (.ref cl) "__init__" = some (some (.ref fI))) (hf : typeIn K (.ref fI) = some (.type "function")) : Fn prog w h₀ (k + 1) (.ref cl) args Q botF σ := by
  intro A s args' room hargs rep
  obtain ⟨hp, g, d, t, os⟩ := s
  have X' : K.In hp := X.keeps rep.keep
  refine make_core (makes_of X' hm) (looks_findIn X' hi) (fun self => bind_fn X' self hf) (.inl rfl) ?_
  obtain ⟨r1, o1⟩ := rep.made (z := zd hp.objs.size) (hzd _) rfl
  obtain ⟨r2, o2⟩ := r1.made (z := zi hp.objs.size) (o := instObj cl hp.objs.size) (hzi _) rfl
  rw [Heap.size_push] at r2 o2
  have room' : Room (A.under (.builtin "type.__call__" ⟨.ref cl :: args', []⟩)) k := by
    obtain ⟨a, b, c⟩ := room
    refine ⟨?_, ?_, fun q => c (by omega)⟩
    · show A.depth + 1 + k ≤ 900
      omega
    · show A.units + 1 + 8 * k ≤ 9000
      omega
  have hfr : (A.under (.builtin "type.__call__" ⟨.ref cl :: args', []⟩)).frames = A.frames := by
    show pushEnvs [] A.frames = A.frames
    unfold pushEnvs
    cases A.frames <;> rfl
  have F := h (hp.objs.size + 1) hp.objs.size (rep.fresh (Nat.le_succ _)) (rep.fresh (Nat.le_refl _)) (Nat.ne_of_gt (Nat.lt_succ_self _)) (A.under (.builtin "type.__call__" ⟨.ref cl :: args', []⟩))
    ⟨(hp.push emptyDict).push (instObj cl hp.objs.size), g, d, t, os⟩ (.ref (hp.objs.size + 1) :: args') room' (by simp [hargs, er]) (r2.around rfl hfr)
  refine codeAny_mono F fun r s' p => ?_
  obtain ⟨σ', h', tk, rfl, rep', oc, q⟩ := p
  match r, q with
  | .ok (.ret v), q =>
    refine ⟨er_none q.1, σ', h', tk, rfl, rep'.around rfl hfr.symm, (o1.trans o2).trans oc, q.2⟩
  | .error e, q => exact q.elim
end
end
section
theorem md_get : typeLookup (.type "method_descriptor") "__get__" = pure (some (.builtin "method_descriptor.__get__")) := by rw [typeLookup_type, builtinLookup_eq_fast]; kernel_rfl
theorem md_set : typeLookup (.type "method_descriptor") "__set__" = pure none := by rw [typeLookup_type, builtinLookup_eq_fast]; kernel_rfl
theorem md_del : typeLookup (.type "method_descriptor") "__delete__" = pure none := by rw [typeLookup_type, builtinLookup_eq_fast]; kernel_rfl
theorem md_entry : entryFor table "method_descriptor.__get__" = some Builtin.«method_descriptor.__get__» := entryFor_of_tree (by kernel_rfl)
theorem md_plain : plainId "method_descriptor.__get__" = true := by decide +kernel
theorem md_kind : builtinKind "method_descriptor.__get__" = some .slot := by decide +kernel
theorem md_split : splitId "method_descriptor.__get__" = some ("method_descriptor", "__get__") := by decide +kernel
theorem md_sub : isSubtype (.type "method_descriptor") (.type "method_descriptor") = pure true := by rw [isSubtype_type]; kernel_rfl
theorem md_args (a b c : Value) : argsOk "method_descriptor.__get__" ⟨[a, b, c], []⟩ := by unfold argsOk; kernel_rfl
theorem wd_get : typeLookup (.type "wrapper_descriptor") "__get__" = pure (some (.builtin "wrapper_descriptor.__get__")) := by rw [typeLookup_type, builtinLookup_eq_fast]; kernel_rfl
theorem wd_set : typeLookup (.type "wrapper_descriptor") "__set__" = pure none := by rw [typeLookup_type, builtinLookup_eq_fast]; kernel_rfl
theorem wd_del : typeLookup (.type "wrapper_descriptor") "__delete__" = pure none := by rw [typeLookup_type, builtinLookup_eq_fast]; kernel_rfl
theorem wd_entry : entryFor table "wrapper_descriptor.__get__" = some Builtin.«wrapper_descriptor.__get__» := entryFor_of_tree (by kernel_rfl)
theorem wd_plain : plainId "wrapper_descriptor.__get__" = true := by decide +kernel
theorem wd_kind : builtinKind "wrapper_descriptor.__get__" = some .slot := by decide +kernel
theorem wd_split : splitId "wrapper_descriptor.__get__" = some ("wrapper_descriptor", "__get__") := by decide +kernel
theorem wd_sub : isSubtype (.type "wrapper_descriptor") (.type "wrapper_descriptor") = pure true := by rw [isSubtype_type]; kernel_rfl
theorem wd_args (a b c : Value) : argsOk "wrapper_descriptor.__get__" ⟨[a, b, c], []⟩ := by unfold argsOk; kernel_rfl
def behind : Sem Fin → Obj → Sem Fin
  | .load _ _ k, o => k o
  | t, _ => t
abbrev boundObj (a : Addr) : Obj := { cls := .type "builtin_function_or_method", data := .fields #[.builtin "list.append", .ref a] }
abbrev nextObj (a : Addr) : Obj := { cls := .type "method-wrapper", data := .fields #[.builtin "list_iterator.__next__", .ref a] }
theorem ap_load (a : Addr) : Builtin.«method_descriptor.__get__» ⟨[.builtin "list.append", .ref a, .type "list"], []⟩ = .load a (some headPart) (behind (Builtin.«method_descriptor.__get__» ⟨[.builtin "list.append", .ref a, .type "list"], []⟩)) := by kernel_rfl
theorem ap_alloc (a : Addr) (xs : Array Value) (k : Nat) : behind (Builtin.«method_descriptor.__get__» ⟨[.builtin "list.append", .ref a, .type "list"], []⟩) { cls := .type "list", dict := none, data := .seq xs k, slots := #[] } =
  .alloc (boundObj a) (fun x => .pure (.done (.ret (.ref x)))) := by kernel_rfl
theorem nx_load (a : Addr) : Builtin.«wrapper_descriptor.__get__» ⟨[.builtin "list_iterator.__next__", .ref a, .type "list_iterator"], []⟩ = .load a (some headPart) (behind (Builtin.«wrapper_descriptor.__get__» ⟨[.builtin "list_iterator.__next__", .ref a, .type "list_iterator"], []⟩)) := by kernel_rfl
theorem nx_alloc (a l : Addr) (i : Nat) : behind (Builtin.«wrapper_descriptor.__get__» ⟨[.builtin "list_iterator.__next__", .ref a, .type "list_iterator"], []⟩) (iterObj l i) =
  .alloc (nextObj a) (fun x => .pure (.done (.ret (.ref x)))) := by kernel_rfl
theorem ap_inst {M : Model} {h : Heap} : Looks M h (isInstance (.builtin "list.append") (.type "method_descriptor")) true := fun A Q E s k q => wpAny_bind (wpAny_of_eq F.type_list_append (wpAny_of_eq md_sub q))
theorem call_md {prog : Program} {w : World} {A : Around} {s : Shared} {a : Addr} {xs : Array Value} {k : Nat} {R : Result → Shared → Prop}
    (hx : s.heap.get? a = some { cls := .type "list", dict := none, data := .seq xs k, slots := #[] }) (h : R (.ok (.ret (.ref s.heap.objs.size))) { s with heap := s.heap.push (boundObj a) }) :
    codeAny (model prog w) A (.call (.builtin "method_descriptor.__get__") ⟨[.builtin "list.append", .ref a, .type "list"], []⟩) R s := by
  refine codeAny_call_builtin (b := Builtin.«method_descriptor.__get__») md_plain md_entry ?_
  refine @check_slot (model prog w) _ _ s "method_descriptor.__get__" "method_descriptor" "__get__" (.builtin "list.append") [.ref a, .type "list"] [] _ md_kind md_split ap_inst (md_args _ _ _) ?_
  rw [ap_load]
  refine nd_load hx ?_
  rw [ap_alloc]
  exact nd_alloc (nd_pure h)
set_option maxHeartbeats 400000 in
theorem getattr_append {prog : Program} {w : World} {A : Around} {E : Value → Shared → Prop} {s : Shared} {a : Addr} {xs : Array Value} {k : Nat} {Q : Value → Shared → Prop}
    (hx : s.heap.get? a = some { cls := .type "list", dict := none, data := .seq xs k, slots := #[] })
    (h : Q (.ref s.heap.objs.size) { s with heap := s.heap.push (boundObj a), toks := s.toks + 1 }) :
    wpAny (model prog w) A (getAttr (.ref a) "append" true) Q E s := by
  obtain ⟨hp, g, d, tk, os⟩ := s
  have hT : ∀ tk', (⟨hp, g, d, tk', os⟩ : Shared).TypeIs (.ref a) "list" := fun _ => ⟨_, hx, rfl⟩
  have f3 := F.slot_list_getattribute.lookup
  have f4 := F.slot_list_getattribute.bind (.ref a)
  have f5 := am_list_getattr_none
  have f6 := F.slot_list_append.lookup
  have f7 := F.type_list_append
  have f8 := md_get
  have f9 := md_set
  have f10 := md_del
  unfold getAttr getAttrBy
  repeat (any_goals (first | assumption | exact hT _ | wp_step))
  refine codeAny_call_builtin F.slot_list_getattribute.plain am_entry_list_getattribute (F.slot_list_getattribute.check _ _ _ _ _ _ _ _ (hT _) (F.args_list_getattribute_2 _ _) ?_)
  unfold Builtin.«object.__getattribute__»
  repeat (any_goals (first | assumption | exact hT _ | wp_step))
  refine call_md (k := k) (xs := xs) hx ?_
  refine wpAny_pure ?_
  show wpAny _ _ (handedOut _) _ _ _
  rw [handedOut_of rfl]
  exact wpAny_pure h
theorem li_slot : Slot "list_iterator" "__getattribute__" "object.__getattribute__" :=
  .of (owner := "object") (n := "__getattribute__") (by rw [typeLookup_type, builtinLookup_eq_fast]; kernel_rfl) (by decide +kernel) (by decide +kernel) (by decide +kernel)
    (by first | exact .inl (by decide +kernel) | exact .inr (by decide +kernel)) (by rw [isSubtype_type]; kernel_rfl)
theorem li_none : typeLookup (.type "list_iterator") "__getattr__" = pure none := by rw [typeLookup_type, builtinLookup_eq_fast]; kernel_rfl
theorem ln_type : typeOf (.builtin "list_iterator.__next__") = pure (.type "wrapper_descriptor") := by show builtinType _ = _; rw [builtinType_eq_fast]; kernel_rfl
theorem nx_inst {M : Model} {h : Heap} : Looks M h (isInstance (.builtin "list_iterator.__next__") (.type "wrapper_descriptor")) true := fun A Q E s k q => wpAny_bind (wpAny_of_eq ln_type (wpAny_of_eq wd_sub q))
theorem call_wd {prog : Program} {w : World} {A : Around} {s : Shared} {a l : Addr} {i : Nat} {R : Result → Shared → Prop}
    (hx : s.heap.get? a = some (iterObj l i)) (h : R (.ok (.ret (.ref s.heap.objs.size))) { s with heap := s.heap.push (nextObj a) }) :
    codeAny (model prog w) A (.call (.builtin "wrapper_descriptor.__get__") ⟨[.builtin "list_iterator.__next__", .ref a, .type "list_iterator"], []⟩) R s := by
  refine codeAny_call_builtin (b := Builtin.«wrapper_descriptor.__get__») wd_plain wd_entry ?_
  refine @check_slot (model prog w) _ _ s "wrapper_descriptor.__get__" "wrapper_descriptor" "__get__" (.builtin "list_iterator.__next__") [.ref a, .type "list_iterator"] [] _ wd_kind wd_split nx_inst (wd_args _ _ _) ?_
  rw [nx_load]
  refine nd_load hx ?_
  rw [nx_alloc]
  exact nd_alloc (nd_pure h)
set_option maxHeartbeats 400000 in
theorem getattr_next {prog : Program} {w : World} {A : Around} {E : Value → Shared → Prop} {s : Shared} {a l : Addr} {i : Nat} {Q : Value → Shared → Prop}
    (hx : s.heap.get? a = some (iterObj l i))
    (h : Q (.ref s.heap.objs.size) { s with heap := s.heap.push (nextObj a), toks := s.toks + 1 }) :
    wpAny (model prog w) A (getAttr (.ref a) "__next__" true) Q E s := by
  obtain ⟨hp, g, d, tk, os⟩ := s
  have hT : ∀ tk', (⟨hp, g, d, tk', os⟩ : Shared).TypeIs (.ref a) "list_iterator" := fun _ => ⟨_, hx, rfl⟩
  have f3 := li_slot.lookup
  have f4 := li_slot.bind (.ref a)
  have f5 := li_none
  have f6 := slot_listiter_next.lookup
  have f7 := ln_type
  have f8 := wd_get
  have f9 := wd_set
  have f10 := wd_del
  unfold getAttr getAttrBy
  repeat (any_goals (first | assumption | exact hT _ | wp_step))
  refine codeAny_call_builtin li_slot.plain F.entry_object_getattribute (li_slot.check _ _ _ _ _ _ _ _ (hT _) (F.args_object_getattribute_2 _ _) ?_)
  unfold Builtin.«object.__getattribute__»
  repeat (any_goals (first | assumption | exact hT _ | wp_step))
  refine call_wd (l := l) (i := i) hx ?_
  refine wpAny_pure ?_
  show wpAny _ _ (handedOut _) _ _ _
  rw [handedOut_of rfl]
  exact wpAny_pure h
end
section
section
variable {prog : Program} {w : World} {h₀ : Heap} {A : Around}
theorem kv_get {xs : List (Str × Value)} {kvs : List (Str × Value)} (e : xs.map er2 = kvs) {i : Nat} {p : Str × Value} (h : kvs[i]? = some p) : ∃ v', xs[i]? = some (p.1, v') ∧ er v' = p.2 := by
  rw [← e, List.getElem?_map, Option.map_eq_some_iff] at h
  obtain ⟨q, h1, rfl⟩ := h
  exact ⟨q.2, h1, rfl⟩
theorem kv_len {xs : List (Str × Value)} {kvs : List (Str × Value)} (e : xs.map er2 = kvs) : xs.length = kvs.length := by rw [← e]; simp
theorem iters_dict (hp : Past h₀) {d : Addr} {kvs : List (Str × Value)} {ep : Nat} : Iters prog w h₀ A (.ref d) (kvs.map fun p => sv p.1) (fun σ => σ d = some (.dstr kvs ep)) := by
  intro s σ xv' Q E he hs rep k
  rw [er_ref he]
  have hne : (d == sysModules) = false := by
    rw [beq_eq_false_iff_ne]
    intro q
    have h1 := rep.old d (by rw [hs]; intro c; cases c)
    unfold Past at hp
    rw [← q] at hp
    exact absurd hp (Nat.not_lt.mpr h1)
  have at_ : ∀ {h : Heap} {σ : Sto}, Rep prog w h₀ A h σ → σ d = some (.dstr kvs ep) → ∃ xs, h.DictAt (strKind prog w) d xs ep ∧ xs.map er2 = kvs := fun {h σ} r e => by
    obtain ⟨o, ho, xs, ⟨es, hd⟩, e⟩ := r.obj d _ e
    exact ⟨xs, ⟨o, es, ho, hd⟩, e⟩
  obtain ⟨xs, hx, ev⟩ := at_ rep hs
  refine wpAny_pyIter_dict hne hx ?_
  rw [kv_len ev]
  refine k (fun i h => h.IsKeyIter s.heap.objs.size d i kvs.length ep) _ ?_ ⟨_, Heap.get?_push_size _ rfl, rfl, rfl⟩ fun b o e => Heap.get?_push_of_some _ e
  refine { item := ?_, done := ?_, keep := ?_, self := ?_, live := ?_ }
  · intro i v s' σ' Q' E' hv hs' rep' hG q
    obtain ⟨xs', hx', ev'⟩ := at_ rep' hs'
    rw [List.getElem?_map, Option.map_eq_some_iff] at hv
    obtain ⟨p, hp1, rfl⟩ := hv
    obtain ⟨v', h1, h2⟩ := kv_get ev' hp1
    rw [← kv_len ev'] at hG
    refine wpAny_pyNext_dict_item hG hx' h1 fun key h' hk hI hS => ?_
    obtain ⟨t, rfl⟩ := Value.isStrOf_shape hk
    rw [kv_len ev'] at hI
    exact q _ h' s'.toks rfl hI hS
  · intro s' σ' Q' E' hs' rep' hG q
    obtain ⟨xs', hx', ev'⟩ := at_ rep' hs'
    rw [List.length_map, ← kv_len ev'] at hG
    exact dict_end rep'.hand.hh hG hx' (by simp) q
  · rintro i h h' ⟨o', ho', r⟩ kk
    exact ⟨o', kk _ ho', r⟩
  · intro i s' Q' E' hG q
    exact wpAny_pyIter_keyiter hG q
  · rintro i h ⟨o', ho', _, hd'⟩
    exact ⟨o', ho', _, hd', by simp⟩
abbrev viewObj (d : Addr) : Obj := { cls := .type "dict_values", data := .fields #[.ref d] }
theorem iters_values (hh : A.handled = none) {v d : Addr} {kvs : List (Str × Value)} {ep : Nat} : Iters prog w h₀ A (.ref v) (kvs.map fun p => p.2) (fun σ => σ v = some (.raw (viewObj d)) ∧ σ d = some (.dstr kvs ep)) := by
  intro s σ xv' Q E he hs rep k
  rw [er_ref he]
  have at_ : ∀ {h : Heap} {σ : Sto}, Rep prog w h₀ A h σ → σ d = some (.dstr kvs ep) → ∃ xs, h.DictAt (strKind prog w) d xs ep ∧ xs.map er2 = kvs := fun {h σ} r e => by
    obtain ⟨o, ho, xs, ⟨es, hd⟩, e⟩ := r.obj d _ e
    exact ⟨xs, ⟨o, es, ho, hd⟩, e⟩
  obtain ⟨xs, hx, ev⟩ := at_ rep hs.2
  obtain ⟨o, ho, e⟩ := rep.obj v _ hs.1
  have e' : o = viewObj d := e
  subst e'
  refine wpAny_pyIter_values ⟨_, ho, rfl, rfl⟩ hx ?_
  rw [kv_len ev]
  refine k (fun i h => h.IsValIter s.heap.objs.size d i kvs.length ep) _ ?_ ⟨_, Heap.get?_push_size _ rfl, rfl, rfl⟩ fun b o e => Heap.get?_push_of_some _ e
  refine { item := ?_, done := ?_, keep := ?_, self := ?_, live := ?_ }
  · intro i v s' σ' Q' E' hv hs' rep' hG q
    obtain ⟨xs', hx', ev'⟩ := at_ rep' hs'.2
    rw [List.getElem?_map, Option.map_eq_some_iff] at hv
    obtain ⟨p, hp1, rfl⟩ := hv
    obtain ⟨v', h1, h2⟩ := kv_get ev' hp1
    rw [← kv_len ev'] at hG
    refine wpAny_pyNext_values_item hG hx' h1 fun h' hI hS => ?_
    rw [kv_len ev'] at hI
    exact q _ h' s'.toks h2 hI hS
  · intro s' σ' Q' E' hs' rep' hG q
    obtain ⟨xs', hx', ev'⟩ := at_ rep' hs'.2
    rw [List.length_map, ← kv_len ev'] at hG
    exact wpAny_pyNext_values_end hh hG hx' (by simp) q
  · rintro i h h' ⟨o', ho', r⟩ kk
    exact ⟨o', kk _ ho', r⟩
  · intro i s' Q' E' hG q
    exact wpAny_pyIter_valiter hG q
  · rintro i h ⟨o', ho', _, hd'⟩
    exact ⟨o', ho', _, hd', by simp⟩
def RangeO (o : Obj) (a b c : Int) : Prop := ∃ t u v, o = { cls := .type "range", data := .fields #[.int a t, .int b u, .int c v] }
theorem iters_range {r : Addr} {o : Obj} {a b c : Int} {n : Nat} (ho : RangeO o a b c) (hsmall : Builtin.Range.small a b c = true) (hn : Builtin.Range.rangeSize a b c = n) :
    Iters prog w h₀ A (.ref r) ((List.range n).map fun i : Nat => nv (a + i * c)) (fun σ => σ r = some (.raw o)) := by
  intro s σ xv' Q E he hs rep k
  rw [er_ref he]
  obtain ⟨t, u, v, rfl⟩ := ho
  obtain ⟨o', ho', e⟩ := rep.obj r _ hs
  have e' : o' = _ := e
  subst e'
  refine wpAny_pyIter_range ho' hsmall ?_
  rw [hn]
  refine k (fun i h => IsRangeIter h s.heap.objs.size (a + i * c) ((n : Int) - i) c) _ ?_ (by
    have : a + ((0 : Nat) : Int) * c = a := by simp
    rw [this]
    have : (n : Int) - ((0 : Nat) : Int) = n := by simp
    rw [this]
    exact Heap.get?_push_size _ rfl) fun b o e => Heap.get?_push_of_some _ e
  refine { item := ?_, done := ?_, keep := ?_, self := ?_, live := ?_ }
  · intro i x s' σ' Q' E' hv hs' rep' hG q
    rw [List.getElem?_map, Option.map_eq_some_iff] at hv
    obtain ⟨j, hj, rfl⟩ := hv
    obtain ⟨hlt, hj⟩ := List.getElem?_eq_some_iff.mp hj
    rw [List.length_range] at hlt
    rw [List.getElem_range] at hj
    subst hj
    refine wpAny_pyNext_range_item hG (by omega) fun h' hI hS => ?_
    refine q _ h' _ rfl ?_ hS
    have e1 : a + (i : Int) * c + c = a + ((i + 1 : Nat) : Int) * c := by
      rw [Int.natCast_add, Int.add_mul]; simp; omega
    have e2 : (n : Int) - i - 1 = n - ((i + 1 : Nat) : Int) := by omega
    rw [← e1, ← e2]
    exact hI
  · intro s' σ' Q' E' hs' rep' hG q
    rw [List.length_map, List.length_range] at hG
    exact range_end rep'.hand.hh hG (by omega) q
  · intro i h h' hG kk
    exact kk _ hG
  · intro i s' Q' E' hG q
    exact wpAny_pyIter_rangeiter hG q
  · intro i h hG
    exact ⟨_, hG, _, rfl, by simp⟩
end
section
variable {C : Cx} {m : Map} {σ : Sto} {Q : Value → Map → Sto → Prop}
theorem St.newRaw {h : Heap} (st : C.S h m σ) (o : Obj) (hf : o.isFreed = false) : C.S (h.push o) m (σ.upd h.objs.size (.raw o)) ∧ Out C.env.locals σ h (σ.upd h.objs.size (.raw o)) (h.push o) :=
  st.made (fun b ob e => Heap.get?_push_of_some _ e) (Nat.le_refl _) (Heap.get?_push_size h hf) rfl
theorem c_range1 {n : Int} (h : ∀ D o, σ D = none → RangeO o 0 n 1 → Q (.ref D) m (σ.upd D (.raw o))) : vcall C (.type "range") [.int n 0] Q m σ := fun args' e => by
  obtain ⟨a, rfl, ea⟩ := inv1 e
  obtain ⟨t, rfl⟩ := er_int ea
  intro s st
  refine call_range_1 ?_
  obtain ⟨st', o'⟩ := st.newRaw { cls := .type "range", data := .fields #[.int 0 s.toks, .int n t, .int 1 (s.toks + 1)] } rfl
  exact ⟨m, _, _, _, rfl, st', o', h _ _ (st.fresh (Nat.le_refl _)) ⟨_, _, _, rfl⟩⟩
theorem c_values (hp : Past C.h₀) {d : Addr} {kvs : List (Str × Value)} {ep : Nat} (hd : σ d = some (.dstr kvs ep)) (h : ∀ D, σ D = none → Q (.ref D) m (σ.upd D (.raw (viewObj d)))) : vcall C (.builtin "dict.values") [.ref d] Q m σ := fun args' e => by
  obtain ⟨a, rfl, ea⟩ := inv1 e
  rw [er_ref ea]
  intro s st
  obtain ⟨xs, hx, ev⟩ := dict_at st hd
  refine call_meetsIn PySem.F.slot_dict_values hx.dictOf.typeIs PySem.F.entry_dict_values (PySem.F.args_dict_values_1 _) (meets_dict_values (strKind C.prog C.w) d (past_ne hp st hd)) ⟨⟨xs, hx.dictOf⟩, ?_⟩
  obtain ⟨st', o'⟩ := st.newRaw (viewObj d) rfl
  exact ⟨m, _, _, s.toks, rfl, st', o', h _ (st.fresh (Nat.le_refl _))⟩
theorem c_tuple {l : Addr} {vs : List Value} (hl : σ l = some (.list vs)) (hz : vs.length ≤ sizeLine) (h : ∀ D, σ D = none → Q (.ref D) m (σ.upd D (.tup vs))) : vcall C (.type "tuple") [.ref l] Q m σ := fun args' e => by
  obtain ⟨a, rfl, ea⟩ := inv1 e
  rw [er_ref ea]
  intro s st
  obtain ⟨its, n, hi, ev⟩ := list_at st hl
  have z := its_size ev
  refine call_tuple_list hi.isList (fun h' kk => ?_) (by omega)
  obtain ⟨st₁, o₁⟩ := st.grown kk
  obtain ⟨st', o'⟩ := st₁.newTup (its := its) ev
  exact ⟨m, _, _, s.toks, rfl, st', o₁.trans o', h _ (st₁.fresh (Nat.le_refl _))⟩
theorem c_isinst_tup {l : Addr} {vs : List Value} (hl : σ l = some (.tup vs)) (h : Q (.bool true) m σ) : vcall C (.builtin "isinstance") [.ref l, .type "tuple"] Q m σ := fun args' e => by
  obtain ⟨a, b, rfl, ea, eb⟩ := inv2 e
  rw [er_ref ea, er_type eb]
  refine WV.still _ h fun s _ _ st q => ?_
  obtain ⟨its, n, hi, ev⟩ := tup_at st hl
  exact call_isinstance (isinstance_true (Tx := "tuple") (by kernel_rfl) (by rw [isSubtype_type]; kernel_rfl)) ⟨⟨_, hi, rfl⟩, q _ s.toks rfl⟩
theorem c_iter {l : Addr} {vs : List Value} (hl : σ l = some (.list vs)) (h : ∀ D, σ D = none → Q (.ref D) m (σ.upd D (.liter l 0))) : vcall C (.builtin "iter") [.ref l] Q m σ := fun args' e => by
  obtain ⟨a, rfl, ea⟩ := inv1 e
  rw [er_ref ea]
  intro s st
  obtain ⟨its, n, hi, ev⟩ := list_at st hl
  refine PySem.Calls.call_function_entry (by decide +kernel) (by decide +kernel) kdk_entry_iter (kdk_args_iter _) ?_
  unfold Builtin.«iter»
  refine wpAny_bind (m := someArgs "iter" 1 2 _) (wpAny_of_eq (a := [Value.ref l]) (by first | rfl | kernel_rfl!) ?_)
  show wpAny _ _ (pyIter (.ref l) >>= _) _ _ _
  refine wpAny_bind (wpAny_pyIter_list hi.isList ?_)
  obtain ⟨st', o'⟩ := st.made (z := .liter l 0) (fun b ob e => Heap.get?_push_of_some _ e) (Nat.le_refl _) (Heap.get?_push_size s.heap (o := iterObj l 0) rfl) rfl
  exact wpAny_pure ⟨_, rfl, m, _, _, s.toks, rfl, st', o', h _ (st.fresh (Nat.le_refl _))⟩
theorem a_append {l : Addr} {vs : List Value} (hl : σ l = some (.list vs)) (h : ∀ D, σ D = none → Q (.ref D) m (σ.upd D (.raw (boundObj l)))) : geta C (.ref l) "append" Q m σ := fun ov' e => by
  rw [er_ref e]
  intro s st
  obtain ⟨its, n, hi, ev⟩ := list_at st hl
  refine getattr_append hi ?_
  obtain ⟨st', o'⟩ := st.newRaw (boundObj l) rfl
  exact ⟨m, _, _, _, rfl, st', o', h _ (st.fresh (Nat.le_refl _))⟩
theorem a_next {I l : Addr} {i : Nat} (hl : σ I = some (.liter l i)) (h : ∀ D, σ D = none → Q (.ref D) m (σ.upd D (.raw (nextObj I)))) : geta C (.ref I) "__next__" Q m σ := fun ov' e => by
  rw [er_ref e]
  intro s st
  obtain ⟨o, ho, e⟩ := st.obj I _ hl
  have e' : o = iterObj l i := e
  subst e'
  refine getattr_next ho ?_
  obtain ⟨st', o'⟩ := st.newRaw (nextObj I) rfl
  exact ⟨m, _, _, _, rfl, st', o', h _ (st.fresh (Nat.le_refl _))⟩
end
end
section
theorem zer : ∀ (ns : List Str) (vs : List Value), erB (ns.zip vs) = ns.zip (vs.map er)
  | [], _ => rfl
  | _ :: _, [] => rfl
  | n :: r, v :: vs => by show (n, er v) :: erB (r.zip vs) = _; rw [zer r vs]; rfl
theorem zfst {ns : List Str} {vs : List Value} {x : Str} (h : x ∈ (ns.zip vs).map (·.1)) : x ∈ ns := by
  obtain ⟨p, hp, rfl⟩ := List.mem_map.mp h
  exact (List.of_mem_zip hp).1
@[reducible] noncomputable def k_fn_binds1 (Q : Value → Sto → Prop) := fun f (_ : Map) (σ' : Sto) => Q (er (flowVal f)) σ'
theorem fn_binds {prog : Program} {w : World} {h₀ : Heap} {k : Nat} {fa : Addr} {o : Obj} {fd : FuncData} {body : List Stmt} {args : List Value} {eb : List (Str × Value)} {Q : Value → Sto → Prop} {σ : Sto}
    (ho : h₀.get? fa = some o) (hd : o.data = .func fd) (hbody : fd.body = .stmts body) (hclo : fd.closure = []) (hlim : h₀.NoLimit) (hcd : h₀.CodeRec fd.code fd.qualname)
    (hb : ∀ (s : Shared) vals, vals.map er = args → (∀ b o, h₀.get? b = some o → s.heap.get? b = some o) → ∃ binds, erB binds = eb ∧ BindsTo s fd ⟨vals, []⟩ binds)
    (hloc : ((eb.map (·.1)).all fun n => fd.scope.names.lookup n == some NameKind.local) = true) (hcells : ∀ N, cellsFrom N fd.scope.names [] = [])
    (h : ∀ (A : Around) (L : Addr), Room A k → σ L = none → WE prog w h₀ A L botE (execs body (callEnvC fd L fa)) (k_fn_binds1 Q) (bindL (callEnvC fd L fa).kindOf eb fun _ => none) σ)
    (hco : fd.scope.isCoroutine = false := by rfl) (hgen : fd.scope.isGenerator = false := by rfl) (hk : fd.scope.kind = .function := by rfl) : Fn prog w h₀ (k + 1) (.ref fa) args Q botF σ := by
  have hcl : ∀ L, (callEnvC fd L fa).cells = [] := fun L => hcells (L + 1)
  refine fn_enter ho hd hbody hclo hlim hcd (fun eb' σ₁ => eb' = eb ∧ σ₁ = σ) (fun A s vals hv rep => ?_) (fun eb' σ₁ he N n hn => ?_) (fun N => by rw [hcells]; exact List.nodup_nil) (fun A L eb' σ₁ room _ he hL hc => ?_) hco hgen hk
  · obtain ⟨binds, e, hbt⟩ := hb s vals hv rep.keep
    exact hbt _ _ _ _ ⟨σ, s.heap, s.toks, rfl, rep, OutC.refl _ _, e, rfl⟩
  · obtain ⟨rfl, rfl⟩ := he
    exact .inl (by have := List.all_eq_true.mp hloc n hn; simpa using this)
  · obtain ⟨rfl, rfl⟩ := he
    rw [hcl]
    exact h A L room hL
@[reducible] noncomputable def k_fn_star1 (Q : Value → Sto → Prop) := fun f (_ : Map) (σ' : Sto) => Q (er (flowVal f)) σ'
theorem fn_star {prog : Program} {w : World} {h₀ : Heap} {k : Nat} {fa : Addr} {o : Obj} {fd : FuncData} {body : List Stmt} {names : List Str} {vn : Str} {args ps : List Value} {Q : Value → Sto → Prop} {σ : Sto}
    (ho : h₀.get? fa = some o) (hd : o.data = .func fd) (hbody : fd.body = .stmts body) (hclo : fd.closure = []) (hlim : h₀.NoLimit) (hcd : h₀.CodeRec fd.code fd.qualname) (hz : ps.length ≤ sizeLine)
    (hb : ∀ vals rest, vals.map er = args → bindArgs fd ⟨vals ++ rest, []⟩ = (newTuple rest >>= fun t => pure (names.zip vals ++ [(vn, t)])))
    (hloc : ((names ++ [vn]).all fun n => fd.scope.names.lookup n == some NameKind.local) = true) (hcells : ∀ N, cellsFrom N fd.scope.names [] = [])
    (h : ∀ (A : Around) (L t : Addr), Room A k → σ L = none → σ t = none → t ≠ L → WE prog w h₀ A L botE (execs body (callEnvC fd L fa)) (k_fn_star1 Q) (bindL (callEnvC fd L fa).kindOf (names.zip args ++ [(vn, .ref t)]) fun _ => none) (σ.upd t (.tup ps)))
    (hco : fd.scope.isCoroutine = false := by rfl) (hgen : fd.scope.isGenerator = false := by rfl) (hk : fd.scope.kind = .function := by rfl) : Fn prog w h₀ (k + 1) (.ref fa) (args ++ ps) Q botF σ := by
  have hcl : ∀ L, (callEnvC fd L fa).cells = [] := fun L => hcells (L + 1)
  refine fn_enter ho hd hbody hclo hlim hcd (fun eb' σ₁ => ∃ t, σ t = none ∧ eb' = names.zip args ++ [(vn, .ref t)] ∧ σ₁ = σ.upd t (.tup ps)) (fun A s vals hv rep => ?_) (fun eb' σ₁ he N n hn => ?_) (fun N => by rw [hcells]; exact List.nodup_nil) (fun A L eb' σ₁ room _ he hL hc => ?_) hco hgen hk
  · obtain ⟨v1, v2, rfl, e1, e2⟩ := List.map_eq_append_iff.mp hv
    rw [hb v1 v2 e1]
    have hl : v2.length = ps.length := by rw [← e2]; simp
    refine wpAny_bind ?_
    unfold newTuple
    refine wpAny_newObj_type ?_ (by show v2.toArray.size ≤ sizeLine; rw [List.size_toArray, hl]; exact hz)
    obtain ⟨r, oc⟩ := rep.made (z := .tup ps) (o := { cls := .type "tuple", data := .seq v2.toArray }) ⟨_, 0, rfl, e2⟩ rfl
    refine wpAny_pure ⟨_, _, s.toks, rfl, r, oc, s.heap.objs.size, rep.fresh (Nat.le_refl _), ?_, rfl⟩
    show erB (names.zip v1 ++ [(vn, .ref s.heap.objs.size)]) = _
    unfold erB
    rw [List.map_append]
    have := zer names v1
    unfold erB at this
    rw [this, e1]
    rfl
  · obtain ⟨t, _, rfl, rfl⟩ := he
    have hn' : n ∈ names ++ [vn] := by
      rw [List.map_append, List.mem_append] at hn
      rcases hn with q | q
      · exact List.mem_append_left _ (zfst q)
      · exact List.mem_append_right _ q
    exact .inl (by have := List.all_eq_true.mp hloc n hn'; simpa using this)
  · obtain ⟨t, ht, rfl, rfl⟩ := he
    rw [hcl]
    have htL : t ≠ L := fun q => by subst q; rw [Sto.upd_same] at hL; cases hL
    refine h A L t room ?_ ht htL
    rw [Sto.upd_ne (Ne.symm htL)] at hL
    exact hL
def Reads1 {α : Type} (a : Addr) (o : Obj) : Nat → Sem α → α → Prop
  | n + 1, .load b _ k, x => b = a ∧ Reads1 a o n (k o) x
  | _, .pure y, x => y = x
  | _, _, _ => False
theorem Reads1.looks {α : Type} {M : Model} {h : Heap} {a : Addr} {o : Obj} (g : h.get? a = some o) : ∀ {n : Nat} {t : Sem α} {x : α}, Reads1 a o n t x → Looks M h t x := by
  intro n
  induction n with
  | zero =>
    intro t x e
    cases t <;> first | exact e.elim | skip
    have e' : _ = x := e
    subst e'
    exact .now
  | succ n ih =>
    intro t x e
    cases t <;> first | exact e.elim | skip
    · have e' : _ = x := e
      subst e'
      exact .now
    · rename_i b p k
      obtain ⟨rfl, e'⟩ := e
      intro A Q E s kk q
      exact nd_load (kk _ _ g) (ih e' A Q E s kk q)
theorem lap_reads (a : Addr) (v : Value) (xs : Array Value) (k : Nat) : Reads1 a { cls := .type "list", dict := none, data := .seq xs k, slots := #[] } 3 (checkBoundCall "list.append" ⟨[.ref a, v], []⟩) () = (a = a ∧ a = a ∧ a = a ∧ () = ()) := by kernel_rfl
theorem nx_pure (a : Addr) : checkBoundCall "list_iterator.__next__" ⟨[.ref a], []⟩ = pure () := by kernel_rfl
section
variable {C : Cx} {m : Map} {σ : Sto} {Q : Value → Map → Sto → Prop}
theorem keeps_bound {b l : Addr} (hb : σ b = some (.raw (boundObj l))) : Keeps1 C (.ref b) σ := fun h m st => by
  obtain ⟨o', ho, e⟩ := st.obj b _ hb
  have e' : o' = _ := e
  subst e'
  exact ⟨.machine, (fun q => nomatch q), (Looks.ld (part := none) ho).andThen .now⟩
theorem keeps_nextw {b l : Addr} (hb : σ b = some (.raw (nextObj l))) : Keeps1 C (.ref b) σ := fun h m st => by
  obtain ⟨o', ho, e⟩ := st.obj b _ hb
  have e' : o' = _ := e
  subst e'
  exact ⟨.machine, (fun q => nomatch q), (Looks.ld (part := none) ho).andThen .now⟩
theorem c_bound {b l : Addr} {vs : List Value} {v : Value} (hb : σ b = some (.raw (boundObj l))) (hl : σ l = some (.list vs)) (hz : vs.length ≤ sizeLine) (h : Q .none m (σ.upd l (.list (vs ++ [v])))) : vcall C (.ref b) [v] Q m σ := fun args' e => by
  obtain ⟨u, rfl, eu⟩ := inv1 e
  intro s st
  obtain ⟨o, ho, e⟩ := st.obj b _ hb
  have e' : o = boundObj l := e
  subst e'
  obtain ⟨its, n, hi, ev⟩ := list_at st hl
  have z := its_size ev
  refine wpAny_call (codeAny_of_tree ?_)
  show wpAny _ _ (callAny (.ref b) _) _ _ _
  refine nd_load ho ?_
  refine wpAny_bind (wpAny_pure ?_)
  show wpAny _ _ (checkBoundCall "list.append" ⟨[.ref l, u], []⟩ >>= fun _ => again (.builtin "list.append" ⟨[.ref l, u], []⟩)) _ _ _
  refine wpAny_bind ((Reads1.looks hi (n := 3) (x := ()) ?_).here ?_)
  · rw [lap_reads]; exact ⟨rfl, rfl, rfl, rfl⟩
  · refine wpAny_pure ⟨Code.quiet_builtin _ (by decide +kernel), codeAny_builtin F.entry_list_append ?_⟩
    rw [Around.under_plainId F.slot_list_append.plain _]
    obtain ⟨st', o'⟩ := st.listTurn hl hi (fun xs => xs.push u) (vs' := vs ++ [v]) (by simp [ev, eu])
    exact list_append l its n u (by omega) C.prog C.w C.A (wants (PostW C.prog C.w C.h₀ C.A C.env.locals σ s fun v m' σ' => Q (er v) m' σ') (PostW C.prog C.w C.h₀ C.A C.env.locals σ s C.E)) s ⟨hi, m, _, _, s.toks, rfl, st', o', h⟩
theorem c_next {b I l : Addr} {i : Nat} {vs : List Value} {v : Value} (hb : σ b = some (.raw (nextObj I))) (hI : σ I = some (.liter l i)) (hl : σ l = some (.list vs)) (hv : vs[i]? = some v) (h : Q v m (σ.upd I (.liter l (i + 1)))) : vcall C (.ref b) [] Q m σ := fun args' e => by
  have e0 : args' = [] := by simpa using e
  subst e0
  intro s st
  obtain ⟨o, ho, e⟩ := st.obj b _ hb
  have e' : o = nextObj I := e
  subst e'
  obtain ⟨oI, hoI, e⟩ := st.obj I _ hI
  have e' : oI = iterObj l i := e
  subst e'
  obtain ⟨its, n, hi, ev⟩ := list_at st hl
  obtain ⟨v', h1, h2⟩ := arr_get ev hv
  refine wpAny_call (codeAny_of_tree ?_)
  show wpAny _ _ (callAny (.ref b) _) _ _ _
  refine nd_load ho ?_
  refine wpAny_bind (wpAny_pure ?_)
  show wpAny _ _ (checkBoundCall "list_iterator.__next__" ⟨[.ref I], []⟩ >>= fun _ => again (.builtin "list_iterator.__next__" ⟨[.ref I], []⟩)) _ _ _
  refine wpAny_bind (wpAny_of_eq (nx_pure I) ?_)
  refine wpAny_pure ⟨Code.quiet_builtin _ (by decide +kernel), codeAny_builtin entry_listiter_next ?_⟩
  rw [Around.under_plainId slot_listiter_next.plain _]
  show wpAny _ _ (field (.ref I) 0 >>= _) _ _ s
  refine wpAny_bind (wpAny_field hoI rfl (x := .ref l) rfl ?_)
  show wpAny _ _ (if (Value.ref l == Value.none) = true then _ else _) _ _ s
  rw [if_neg (show ¬ ((Value.ref l == Value.none) = true) from Bool.false_ne_true)]
  show wpAny _ _ (field (.ref I) 1 >>= _) _ _ s
  refine wpAny_bind (wpAny_field hoI rfl (x := .int i 0) rfl ?_)
  show wpAny _ _ (seqItems? (.ref l) >>= _) _ _ s
  refine wpAny_bind (wpAny_seqItems hi rfl ?_)
  simp only [Int.toNat_natCast, h1]
  refine wpAny_bind (wpAny_setField hoI rfl (by simp) (wpAny_pure ?_))
  have g : (s.heap.update I (Obj.mapFields (·.setIfInBounds 1 (rawInt (i + 1))))).get? I = some (iterObj l (i + 1)) := by
    refine (Heap.get?_update_self _ hoI rfl).trans ?_
    simp [Obj.mapFields, rawInt]
  obtain ⟨st', o'⟩ := st.turned (z := .liter l (i + 1)) hI (Heap.SameBut.update ..) g rfl
  refine ⟨m, _, _, s.toks, rfl, st', o', ?_⟩
  show Q (er v') _ _
  rw [h2]; exact h
end
end
section
def hideL : List Addr → Heap → Heap
  | [], h => h
  | a :: r, h => (hideL r h).hide a
theorem hideL_mem {h : Heap} {b : Addr} : ∀ {l : List Addr}, b ∈ l → (hideL l h).get? b = none
  | a :: r, e => by
    show ((hideL r h).hide a).get? b = none
    by_cases q : b = a
    · subst q; exact Heap.hide_self _ _
    · rw [Heap.hide_ne _ q]
      rcases List.mem_cons.mp e with q' | q'
      · exact absurd q' q
      · exact hideL_mem q'
section
variable {C : Cx} {m : Map} {σ : Sto}
def frs (A : Around) : List Addr := (A.frames.getD []).filterMap (·.frame)
theorem fun_frames {h₀ h base : Heap} {σ : Sto} : ∀ {l : List Env}, (∀ env ∈ l, env.scope.kind ≠ .module ∧ ∃ L o es n, env.frame = some L ∧ h.get? L = some o ∧ o.data = .dict es n ∧ h₀.objs.size ≤ L ∧ σ L = none) → (∀ a ∈ l.filterMap (·.frame), base.get? a = none) → h.FunFrames base l
  | [], _, _ => trivial
  | env :: r, k, n => by
    obtain ⟨km, L, o, es, nn, hf, g, d, _, _⟩ := k env (.head _)
    refine ⟨km, ⟨L, o, hf, n L (List.mem_filterMap.mpr ⟨env, .head _, hf⟩), g, fun vs q => by rw [d] at q; cases q⟩, fun_frames (fun e he => k e (.tail _ he)) fun a ha => n a ?_⟩
    obtain ⟨e, he, hfe⟩ := List.mem_filterMap.mp ha
    exact List.mem_filterMap.mpr ⟨e, .tail _ he, hfe⟩
end
end
section
theorem fn_plainF {prog : Program} {w : World} {h₀ : Heap} {k : Nat} {fa : Addr} {o : Obj} {fd : FuncData} {body : List Stmt} {names : List Str} {args : List Value} {Q : Value → Sto → Prop} {σ : Sto}
    (ho : h₀.get? fa = some o) (hd : o.data = .func fd) (hbody : fd.body = .stmts body) (hclo : fd.closure = []) (hlim : h₀.NoLimit) (hcd : h₀.CodeRec fd.code fd.qualname)
    (hb : ∀ vals, vals.map er = args → bindArgs fd ⟨vals, []⟩ = pure (names.zip vals))
    (hloc : (names.all fun n => fd.scope.names.lookup n == some NameKind.local) = true) (hcells : ∀ N, cellsFrom N fd.scope.names [] = [])
    (h : ∀ (A : Around) (L : Addr), Room A k → (∃ l, A.frames = some (callEnvC fd L fa :: l)) → σ L = none → WE prog w h₀ A L botE (execs body (callEnvC fd L fa)) (fun f _ σ' => Q (er (flowVal f)) σ') (bindL (callEnvC fd L fa).kindOf (names.zip args) fun _ => none) σ)
    (hco : fd.scope.isCoroutine = false := by rfl) (hgen : fd.scope.isGenerator = false := by rfl) (hk : fd.scope.kind = .function := by rfl) : Fn prog w h₀ (k + 1) (.ref fa) args Q botF σ := by
  have hcl : ∀ L, (callEnvC fd L fa).cells = [] := fun L => hcells (L + 1)
  refine fn_enter ho hd hbody hclo hlim hcd (fun eb σ₁ => eb = names.zip args ∧ σ₁ = σ) (fun A s vals hv rep => ?_) (fun eb σ₁ he N n hn => ?_) (fun N => by rw [hcells]; exact List.nodup_nil) (fun A L eb σ₁ room hf he hL hc => ?_) hco hgen hk
  · exact wpAny_of_eq (hb vals hv) ⟨σ, s.heap, s.toks, rfl, rep, OutC.refl _ _, by rw [zer, hv], rfl⟩
  · obtain ⟨rfl, rfl⟩ := he
    exact .inl (by have := List.all_eq_true.mp hloc n (zfst hn); simpa using this)
  · obtain ⟨rfl, rfl⟩ := he
    rw [hcl]
    exact h A L room hf hL
end
section
section
variable {C : Cx} {m : Map} {σ : Sto}
theorem frs_dict {h : Heap} {σ : Sto} {h₀ : Heap} {A : Around} (f : FrOk h₀ A h σ) {b : Addr} (hb : b ∈ frs A) : σ b = none ∧ h₀.objs.size ≤ b ∧ ∃ o es n, h.get? b = some o ∧ o.data = .dict es n := by
  obtain ⟨l, hl, k⟩ := f
  unfold frs at hb
  rw [hl] at hb
  obtain ⟨env, he, hf⟩ := List.mem_filterMap.mp hb
  obtain ⟨_, L, o, es, n, hf2, g, d, bb, nn⟩ := k env he
  rw [hf2] at hf
  cases hf
  exact ⟨nn, bb, o, es, n, g, d⟩
end
end
section
theorem fields_same {o : Obj} {ts : Array Value} {i : Nat} {x : Value} (d : o.data = .fields ts) (h : ts[i]? = some x) : Obj.mapFields (·.setIfInBounds i x) o = o := by
  obtain ⟨c, dc, dt, sl⟩ := o
  cases d
  show Obj.mk c dc (.fields (ts.setIfInBounds i x)) sl = _
  have : ts.setIfInBounds i x = ts := by
    obtain ⟨hi, e⟩ := Array.getElem?_eq_some_iff.mp h
    apply Array.ext
    · simp
    · intro j h1 h2
      rw [Array.getElem_setIfInBounds]
      split
      · rename_i q
        subst q
        exact e.symm
      · rfl
  rw [this]
theorem update_same {h : Heap} {a : Addr} {o : Obj} {f : Obj → Obj} (g : h.get? a = some o) (e : f o = o) : h.update a f = h := by
  obtain ⟨objs, l⟩ := h
  show Heap.mk (objs.modify a f) l = _
  have lt : a < objs.size := Heap.lt_size g
  have ga : objs[a] = o := by
    have g' : (match objs[a]? with | some ⟨_, _, .freed, _⟩ => none | o => o) = some o := g
    rw [Array.getElem?_eq_getElem lt] at g'
    revert g'
    cases objs[a] with
    | mk c d dt sl => cases dt <;> intro g' <;> first | exact Option.some.inj g' | cases g'
  have : objs.modify a f = objs := by
    apply Array.ext
    · simp
    · intro j h1 h2
      rw [Array.getElem_modify]
      split
      · rename_i q
        subst q
        rw [ga, e]
      · rfl
  rw [this]
theorem note_own {M : Model} {A : Around} {E : Value → Shared → Prop} {s : Shared} {base : Heap} {env : Env} {outer : List Env} {L e : Addr} {oe : Obj} {vs : Array Value} {Q : Unit → Shared → Prop}
    (hfr : A.frames = some (env :: outer)) (hl : s.heap.FunFrames base (env :: outer)) (hf : env.frame = some L) (he : s.heap.get? e = some oe) (hd : oe.data = .fields vs)
    (h1 : vs[1]? = some .none ∨ ∃ T oT ts, vs[1]? = some (.ref T) ∧ T ≠ e ∧ s.heap.get? T = some oT ∧ oT.data = .fields ts ∧ ts[3]? = some .none)
    (h : ∀ h' T oT ts, (∀ b o, s.heap.get? b = some o → b ≠ e → (b ∉ (env :: outer).filterMap (·.frame) → h'.get? b = some o) ∧ ∃ sl, h'.get? b = some { o with slots := sl }) → s.heap.objs.size ≤ T →
      h'.get? e = some (oe.mapFields (·.setIfInBounds 1 (.ref T))) → h'.get? T = some oT → oT.data = .fields ts → ts[3]? = some .none → Q () { s with heap := h' }) :
    wpAny M A (noteFrame (.ref e) env) (fun _ s' => wpAny M A (setFlight (.ref e) none) Q E s') E s := by
  have hene : e ∉ (env :: outer).filterMap (·.frame) := fun hm => by
    obtain ⟨_, o, ho, hnf⟩ := hl.mem hm
    rw [he] at ho; cases ho; exact hnf vs hd
  have hsz : 1 < vs.size := by
    rcases h1 with h1 | ⟨_, _, _, h1, _⟩ <;> exact (Array.getElem?_eq_some_iff.mp h1).1
  have new : ∀ head hadNext, wpAny M A (do let a ← frameOf env; let pl ← entryPlaceOf L hadNext; let b ← EntryCells.newEntry head a .none (rawInt L) .none pl; setField (.ref e) 1 b) (fun _ s' => wpAny M A (setFlight (.ref e) none) Q E s') E s := by
    intro head hadNext
    refine wpAny_bind (wpAny_frameOf_fun hfr hl hf fun h₁ hs₁ => ?_)
    refine wpAny_bind (wpAny_entryPlaceOf fun pl hpl => ?_)
    unfold EntryCells.newEntry newFields
    refine wpAny_bind (wpAny_newObj_type ?_ (hpl.sizeOk5 _ _ _ _ _))
    have e1 : h₁.get? e = some oe := (hs₁.2.1 e hene).trans he
    generalize hO : ({ cls := .type "traceback", dict := none, data := .fields ([head, .ref L, .none, rawInt L, .none] ++ (if pl.isEmpty then List.replicate 6 Value.none else pl)).toArray } : Obj) = O
    have e2 := Heap.get?_push_of_some (h := h₁) O e1
    refine wpAny_setField e2 hd hsz ?_
    have hTe : h₁.objs.size ≠ e := Nat.ne_of_gt (Heap.lt_size e1)
    have d3 : (Obj.mapFields (·.setIfInBounds 1 (Value.ref h₁.objs.size)) oe).data = .fields (vs.setIfInBounds 1 (Value.ref h₁.objs.size)) := Obj.data_mapFields hd _
    have e3 := Heap.get?_update_self (Obj.mapFields (·.setIfInBounds 1 (Value.ref h₁.objs.size))) e2 (Obj.isFreed_of_fields d3)
    have T3 := (Heap.get?_update_other (h₁.push O) (Obj.mapFields (·.setIfInBounds 1 (Value.ref h₁.objs.size))) (Ne.symm hTe)).trans (Heap.get?_push_size h₁ (by rw [← hO]; rfl))
    unfold setFlight
    refine wpAny_bind (wpAny_field e3 d3 (x := .ref h₁.objs.size) (by simp [hsz]) ?_)
    rw [if_pos (show (Value.ref h₁.objs.size != Value.none) = true from by simp)]
    have dO : O.data = .fields ([head, .ref L, .none, rawInt L, .none] ++ (if pl.isEmpty then List.replicate 6 Value.none else pl)).toArray := by rw [← hO]
    have zO : 3 < ([head, .ref L, .none, rawInt L, .none] ++ (if pl.isEmpty then List.replicate 6 Value.none else pl)).toArray.size := by simp only [List.size_toArray, List.length_append, List.length_cons, List.length_nil] <;> omega
    have dT := Obj.data_mapFields dO (·.setIfInBounds 3 ((none : Option Addr).elim Value.none fun f => rawInt f))
    refine wpAny_setField T3 dO zO (h _ h₁.objs.size _ _ (fun b o hb hbe => ?_) (by rw [hs₁.1]; exact Nat.le_refl _) ?_ (Heap.get?_update_self _ T3 (Obj.isFreed_of_fields dT)) dT ?_)
    · have keep : ∀ o', h₁.get? b = some o' → (((h₁.push O).update e (Obj.mapFields (·.setIfInBounds 1 (Value.ref h₁.objs.size)))).update h₁.objs.size (Obj.mapFields (·.setIfInBounds 3 ((none : Option Addr).elim Value.none fun f => rawInt f)))).get? b = some o' := fun o' hb' => by
        rw [Heap.get?_update_other _ _ (Nat.ne_of_gt (Heap.lt_size hb')), Heap.get?_update_other _ _ (Ne.symm hbe)]
        exact Heap.get?_push_of_some _ hb'
      refine ⟨fun nb => keep o ((hs₁.2.1 b nb).trans hb), ?_⟩
      obtain ⟨sl, hs⟩ := hs₁.2.2 b o hb
      exact ⟨sl, keep _ hs⟩
    · rw [Heap.get?_update_other _ _ hTe]; exact e3
    · rw [Array.getElem?_setIfInBounds_self_of_lt zO]; rfl
  unfold noteFrame
  simp only [hf]
  rcases h1 with h1 | ⟨T, oT, ts, h1, hTe, hT, hdT, h3⟩
  · refine wpAny_bind (wpAny_field he hd h1 ?_)
    rw [if_neg (by decide)]
    exact new _ _
  · refine wpAny_bind (wpAny_field he hd h1 ?_)
    rw [if_pos (show (Value.ref T != Value.none) = true from by simp)]
    refine wpAny_bind (wpAny_field hT hdT h3 ?_)
    rw [if_neg (show ¬ ((Value.none == rawInt L) = true) from by simp [rawInt])]
    have same : s.heap.update T (Obj.mapFields (·.setIfInBounds 3 Value.none)) = s.heap := by
      exact update_same hT (fields_same hdT h3)
    refine wpAny_bind (wpAny_setField hT hdT (Array.getElem?_eq_some_iff.mp h3).1 ?_)
    rw [same]
    exact new _ _
end
section
def ExcIn (σ : Sto) (e : Addr) (n : Bool) (cls a0 ctx : Value) : Prop :=
  ∃ oe vs, σ e = some (.raw oe) ∧ oe.cls = cls ∧ oe.data = .fields vs ∧ 6 ≤ vs.size ∧ vs[0]? = some a0 ∧ vs[2]? = some ctx ∧
    ((n = false ∧ vs[1]? = some .none) ∨ (n = true ∧ ∃ T oT ts, vs[1]? = some (.ref T) ∧ T ≠ e ∧ σ T = some (.raw oT) ∧ oT.data = .fields ts ∧ ts[3]? = some .none))
def Sto.drop (σ : Sto) (a : Addr) : Sto := fun b => if b = a then none else σ b
theorem Sto.drop_same (σ : Sto) (a : Addr) : σ.drop a a = none := by simp [Sto.drop]
theorem Sto.drop_ne {σ : Sto} {a b : Addr} (h : b ≠ a) : σ.drop a b = σ b := by simp [Sto.drop, h]
theorem Sto.drop_upd {σ : Sto} {a : Addr} {x : AO} (h : σ a = none) : (σ.upd a x).drop a = σ := by
  funext b
  by_cases q : b = a
  · subst q; rw [Sto.drop_same, h]
  · rw [Sto.drop_ne q, Sto.upd_ne q]
section
variable {C : Cx} {m : Map} {σ : Sto}
theorem St.less {h : Heap} {σ₂ : Sto} (st : C.S h m σ) (k : ∀ b x, σ₂ b = some x → σ b = some x) : C.S h m σ₂ := by
  have kn : ∀ b, σ b = none → σ₂ b = none := fun b n => by
    cases e : σ₂ b with
    | none => rfl
    | some x => have := k b x e; rw [n] at this; cases this
  exact st.next (fun b ob _ e => e) (fun b o e n ne => ⟨.of e, kn b n⟩) st.ns (kn _ st.off) (fun a y e => st.obj a y (k a y e)) fun a e => st.old a fun q => e (kn a q)
theorem noted {outer : List Env} {s : Shared} {e : Addr} {n : Bool} {cls a0 ctx : Value} {Q : Unit → Shared → Prop} {E : Value → Shared → Prop} (st : C.S s.heap m σ) (hfr : C.A.frames = some (C.env :: outer)) (hfL : C.env.frame = some C.env.locals)
    (x : ExcIn σ e n cls a0 ctx)
    (h : ∀ h' σ', C.S h' m σ' → Out C.env.locals σ s.heap σ' h' → ExcIn σ' e true cls a0 ctx → (∀ a, a ≠ e → σ a ≠ none → σ' a = σ a) → Q () { s with heap := h' }) :
    wpAny (model C.prog C.w) C.A (noteFrame (.ref e) C.env) (fun _ s₂ => wpAny (model C.prog C.w) C.A (setFlight (.ref e) none) Q E s₂) E s := by
  obtain ⟨oe, vs, hσ, hc, hd, hz, h0, h2, h1⟩ := x
  have hfrs : frs C.A = (C.env :: outer).filterMap (·.frame) := by unfold frs; rw [hfr]; rfl
  obtain ⟨l, hl, ql⟩ := id st.fr
  rw [hfr] at hl
  cases hl
  obtain ⟨oe', ge, ie⟩ := st.obj e _ hσ
  have ie : oe' = oe := ie
  subst ie
  refine note_own (base := hideL (frs C.A) s.heap) hfr (fun_frames ql fun a ha => hideL_mem (by rw [hfrs]; exact ha)) hfL ge hd ?_ fun h' T oT ts k hT g' gT dT t3 => ?_
  · rcases h1 with ⟨_, h1⟩ | ⟨_, T, oT, ts, h1, ne, sT, dT, t3⟩
    · exact .inl h1
    · obtain ⟨o, g, i⟩ := st.obj T _ sT
      have i : o = oT := i
      subst i
      exact .inr ⟨T, o, ts, h1, ne, g, dT, t3⟩
  have eT : ∀ {b o}, s.heap.get? b = some o → b ≠ T := fun {b o} g q => absurd (Heap.lt_size g) (by rw [q]; exact Nat.not_lt.mpr hT)
  have σT : σ T = none := st.fresh hT
  have hTe : e ≠ T := eT ge
  have told : ∀ {b y}, σ b = some y → b ≠ e → b ∉ frs C.A := fun {b y} sb _ q => by
    have := (frs_dict st.fr q).1
    rw [sb] at this; cases this
  let σ' := (σ.upd e (.raw (oe'.mapFields (·.setIfInBounds 1 (.ref T))))).upd T (.raw oT)
  have s1 : ∀ a, a ≠ e → a ≠ T → σ' a = σ a := fun a n1 n2 => by show Sto.upd _ _ _ a = _; rw [Sto.upd_ne n2, Sto.upd_ne n1]
  have kp : ∀ b o, s.heap.get? b = some o → b ≠ e → Kp h' b o := fun b o g ne => by
    obtain ⟨k1, sl, k2⟩ := k b o g ne
    by_cases q : b ∈ frs C.A
    · obtain ⟨_, _, o', es, n, g', d⟩ := frs_dict st.fr q
      rw [g] at g'
      cases g'
      exact ⟨sl, k2, fun c => absurd d (c es n)⟩
    · exact .of (k1 (by rw [← hfrs]; exact q))
  have o : Out C.env.locals σ s.heap σ' h' := fun b ob g nn ne => by
    have ne' : b ≠ e := fun q => by rw [q, hσ] at nn; cases nn
    exact ⟨kp b ob g ne', by rw [s1 b ne' (eT g)]; exact nn⟩
  have Le : C.env.locals ≠ e := fun q => by have := st.off; rw [q, hσ] at this; cases this
  have gL : ∃ oL, s.heap.get? C.env.locals = some oL := let ⟨_, ⟨oL, _, _, g, _⟩, _⟩ := st.ns; ⟨oL, g⟩
  have LT : C.env.locals ≠ T := let ⟨_, g⟩ := gL; eT g
  have sT' : σ' T = some (.raw oT) := Sto.upd_same _ _ _
  have se' : σ' e = some (.raw (oe'.mapFields (·.setIfInBounds 1 (.ref T)))) := by show Sto.upd _ _ _ e = _; rw [Sto.upd_ne hTe, Sto.upd_same]
  refine h h' σ' (st.next (fun b ob e0 g => ?_) o ?_ ?_ (fun a y ea => ?_) fun a ea => ?_) o ?_ fun a n1 n2 => ?_
  · have hbe : b ≠ e := fun q => by
      have := st.toRep.outside e0
      rw [q, hσ] at this; cases this
    refine (k b ob g hbe).1 fun q => ?_
    rw [← hfrs] at q
    exact absurd (Heap.lt_size e0) (Nat.not_lt.mpr (frs_dict st.fr q).2.1)
  · obtain ⟨mc, hn, hm⟩ := st.ns
    exact ⟨mc, Kp.ns hn fun ob g => kp _ ob g Le, hm⟩
  · rw [s1 _ Le LT]; exact st.off
  · by_cases q : a = T
    · subst q
      rw [sT'] at ea
      cases ea
      exact ⟨oT, gT, rfl⟩
    · by_cases q2 : a = e
      · subst q2
        rw [se'] at ea
        cases ea
        exact ⟨_, g', rfl⟩
      · rw [s1 a q2 q] at ea
        obtain ⟨ob, g, i⟩ := st.obj a y ea
        exact ⟨ob, (k a ob g q2).1 (by rw [← hfrs]; exact told ea q2), i⟩
  · by_cases q : a = T
    · subst q; exact Nat.le_trans st.big hT
    · by_cases q2 : a = e
      · subst q2; exact st.old a (by rw [hσ]; intro c; cases c)
      · rw [s1 a q2 q] at ea
        exact st.old a ea
  · have sz : 1 < vs.size := by omega
    refine ⟨_, vs.setIfInBounds 1 (.ref T), se', by rw [Obj.cls_mapFields]; exact hc, Obj.data_mapFields hd _, by simpa using hz, by rw [Array.getElem?_setIfInBounds_ne (by decide)]; exact h0, by rw [Array.getElem?_setIfInBounds_ne (by decide)]; exact h2, .inr ⟨rfl, T, oT, ts, by simp [sz], Ne.symm hTe, sT', dT, t3⟩⟩
  · refine s1 a n1 fun q => n2 (by rw [q]; exact σT)
theorem flight_again {s : Shared} {e : Addr} {cls a0 ctx : Value} {Q : Unit → Shared → Prop} {E : Value → Shared → Prop} {M : Model} {A : Around} (hσ : ∀ a o, σ a = some (.raw o) → s.heap.get? a = some o) (x : ExcIn σ e true cls a0 ctx) (h : Q () s) :
    wpAny M A (setFlight (.ref e) none) Q E s := by
  obtain ⟨oe, vs, se, hc, hd, hz, h0, h2, h1⟩ := x
  rcases h1 with ⟨c, _⟩ | ⟨_, T, oT, ts, h1, ne, sT, dT, t3⟩
  · cases c
  unfold setFlight
  refine wpAny_bind (wpAny_field (hσ _ _ se) hd h1 ?_)
  rw [if_pos (show (Value.ref T != Value.none) = true from by simp)]
  refine wpAny_setField (hσ _ _ sT) dT (Array.getElem?_eq_some_iff.mp t3).1 ?_
  show Q () { s with heap := s.heap.update T (Obj.mapFields (·.setIfInBounds 3 Value.none)) }
  rw [update_same (hσ _ _ sT) (fields_same dT t3)]
  exact h
theorem St.raws {h : Heap} (st : C.S h m σ) : ∀ a o, σ a = some (.raw o) → h.get? a = some o := fun a o e => by
  obtain ⟨o', g, i⟩ := st.obj a _ e
  have i : o' = o := i
  subst i
  exact g
end
end
section
def catches (C : Cx) (t : Expr) (cls : Value) : Prop := ∀ (A' : Around) (s : Shared) (e : Addr) (Q : Bool → Shared → Prop) (E : Value → Shared → Prop), (∀ b o, C.h₀.get? b = some o → s.heap.get? b = some o) → (∃ o, s.heap.get? e = some o ∧ o.cls = cls) → Q true s →
  wpAny (model C.prog C.w) A' (eval t C.env) (fun c s₁ => wpAny (model C.prog C.w) A' (excMatches (.ref e) c) Q E s₁) E s
@[reducible] def Cx.handling (C : Cx) (e : Addr) : Cx := { C with A := C.A.mark (some (.ref e)), E := botE }
@[reducible] def Cx.tried (C : Cx) (t : Expr) (hs : List Stmt) (Q : Flow → Map → Sto → Prop) : Cx :=
  { C with E := fun v m₁ σ₁ => ∃ e n cls a0, v = .ref e ∧ ExcIn σ₁ e n cls a0 (hv C.A) ∧ catches C t cls ∧ (C.handling e).W (execs hs C.env) Q m₁ (σ₁.drop e) }
section
variable {C : Cx} {m : Map} {σ : Sto}
theorem drop_kn {e b : Addr} (n : σ b = none) : σ.drop e b = none := by
  by_cases q : b = e
  · subst q; exact Sto.drop_same _ _
  · rw [Sto.drop_ne q]; exact n
theorem drop_sub {e b : Addr} {x : AO} (h : σ.drop e b = some x) : σ b = some x := by
  by_cases q : b = e
  · subst q; rw [Sto.drop_same] at h; cases h
  · rw [Sto.drop_ne q] at h; exact h
theorem St.handled {h : Heap} {e : Addr} {n : Bool} {cls a0 : Value} (st : C.S h m σ) (x : ExcIn σ e n cls a0 (hv C.A)) : (C.handling e).S h m (σ.drop e) := by
  have st' : C.S h m (σ.drop e) := st.less fun b x => drop_sub
  obtain ⟨oe, vs, se, hc, hd, hz, h0, h2, _⟩ := x
  have at_ : HAt h (σ.drop e) e (hv C.A) := ⟨oe, vs, st.raws _ _ se, Sto.drop_same _ _, hd, hz, h2⟩
  refine { keep := st'.keep, obj := st'.obj, old := st'.old, hand := ?_, fr := st'.fr, big := st'.big, ns := st'.ns, off := st'.off, above := st'.above }
  refine .inr ?_
  rcases st.hand with q | ⟨l, hn, ⟨a, ha, e'⟩, ch⟩
  · refine ⟨[e], by simp, ⟨e, rfl, rfl⟩, fun i b hi => ?_⟩
    unfold hv at at_
    rw [q] at at_
    cases i with
    | zero => cases hi; exact at_
    | succ i => cases hi
  · refine ⟨e :: l, List.nodup_cons.mpr ⟨fun q => ?_, hn⟩, ⟨e, rfl, rfl⟩, fun i b hi => ?_⟩
    · obtain ⟨i, hi⟩ := List.getElem?_of_mem q
      obtain ⟨_, _, _, n, _⟩ := ch i e hi
      rw [se] at n; cases n
    · unfold hv at at_
      rw [e'] at at_
      cases i with
      | zero =>
        cases hi
        show HAt h (σ.drop e) e (lnk l[0]?)
        rw [ha]
        exact at_
      | succ i => exact (ch i b hi).move fun o vs g n d z => ⟨g, drop_kn n⟩
theorem s_try {body : List Stmt} {t : Expr} {b₀ : Stmt} {suite : List Stmt} {hpos pos : Pos} {Q : Flow → Map → Sto → Prop} (hfr : ∃ outer, C.A.frames = some (C.env :: outer))
    (h : (C.tried t (b₀ :: suite) Q).W (execs body C.env) Q m σ) (hfL : C.env.frame = some C.env.locals := by rfl) : C.W (exec (.Try body [.ExceptHandler (some t) none (b₀ :: suite) hpos] [] [] pos) C.env) Q m σ := by
  intro s st
  obtain ⟨outer, hfr⟩ := hfr
  refine wpAny_Try_except (wpAny_mono (h s st) (fun f s₁ p => ?_) fun v s₁ p => ?_)
  · cases f with
    | next => exact wpAny_execs_nil p
    | _ => exact p
  · obtain ⟨m₁, σ₁, h₁, t₁, rfl, st₁, o₁, e, n, cls, a0, rfl, x, ct, hw⟩ := p
    have st₁ : C.S h₁ m₁ σ₁ := st₁
    refine noted (C := C) (s := { s with heap := h₁, toks := t₁ }) st₁ hfr hfL x fun h₂ σ₂ st₂ o₂ x₂ k₂ => ?_
    have live : ∀ {h : Heap}, C.S h m₁ σ₂ → ∃ o, h.get? e = some o ∧ o.cls = cls := fun st => by
      obtain ⟨oe, vs, se, hc, _⟩ := x₂
      exact ⟨oe, st.raws _ _ se, hc⟩
    refine wpAny_handleBy_cons (codeAny_handlers_test (ct _ _ _ _ _ st₂.keep (live st₂) ?_)) (by intro q; cases q)
    show codeAny _ _ (.handlers (.ref e) [.ExceptHandler none none (b₀ :: suite) hpos] C.env) _ _
    refine codeAny_handlers_suite (flight_again st₂.raws x₂ ?_)
    have sub : ∀ b x, σ₁.drop e b = some x → σ₂.drop e b = some x := fun b x q => by
      have ne : b ≠ e := fun r => by rw [r, Sto.drop_same] at q; cases q
      rw [Sto.drop_ne ne] at q ⊢
      rw [k₂ b ne (by rw [q]; intro c; cases c)]
      exact q
    have st₃ : (C.handling e).S h₂ m₁ (σ₁.drop e) := St.less (C := C.handling e) (St.handled st₂ x₂) sub
    have kn : ∀ b, σ₂ b = none → σ₁.drop e b = none := fun b q => by
      cases r : σ₁.drop e b with
      | none => rfl
      | some y => have := drop_sub (sub b y r); rw [q] at this; cases this
    have o₃ : Out C.env.locals σ s.heap (σ₁.drop e) h₂ := (o₁.trans o₂).trans (fun b o g q ne => ⟨.of g, kn b q⟩)
    refine wpAny_mono (hw { s with heap := h₂, toks := t₁ } st₃) (fun f s₃ p => ?_) fun _ _ p => bot_elim (α := Unit) (C := C.handling e) p
    obtain ⟨m₃, σ₃, h₃, t₃, rfl, st₃, o₄, q⟩ := p
    have oo : Out C.env.locals σ s.heap σ₃ h₃ := o₃.trans o₄
    have st₄ : C.S h₃ m₃ σ₃ := { keep := st₃.keep, obj := st₃.obj, old := st₃.old, hand := st.hand.out (let ⟨mc, n, _⟩ := st.ns; ⟨mc, n⟩) oo, fr := st₃.fr, big := st₃.big, ns := st₃.ns, off := st₃.off, above := st₃.above }
    exact ⟨m₃, σ₃, h₃, t₃, rfl, st₄, oo, q⟩
theorem catches_type {x : Str} {p : Pos} {T X : String} (g : GV C.h₀ x (.type T)) (hexc : isSubtype (.type T) (.type "BaseException") = pure true) (hnt : isSubtype (.type ((Manifest.find? T).elim "type" fun x => x.metatype)) (.type "tuple") = pure false)
    (hsub : isSubtype (.type X) (.type T) = pure true) (hk : C.env.scope.kind = .function := by rfl) (hl : C.env.kindOf x = some .globalImplicit := by rfl)
    (hg : C.env.globals = mainGlobals := by rfl) (hb : C.env.builtins = builtinsNs := by rfl) (hd : (x == ("__debug__" : Str)) = false := by decide) : catches C (.Name x p) (.type X) := by
  intro A' s e Q E k ⟨o, ho, hc⟩ q
  exact Calls.Name_function_global hk hl (g _ _ _ s _ _ hg hb k (wpAny_excMatches_type ⟨o, ho, hc⟩ hexc hnt hsub q)) hd
theorem catches_stop {p : Pos} (g : GV C.h₀ "StopIteration" (.type "StopIteration")) (hk : C.env.scope.kind = .function := by rfl) (hl : C.env.kindOf "StopIteration" = some .globalImplicit := by rfl)
    (hg : C.env.globals = mainGlobals := by rfl) (hb : C.env.builtins = builtinsNs := by rfl) : catches C (.Name "StopIteration" p) (.type "StopIteration") :=
  catches_type g (by rw [isSubtype_type]; kernel_rfl) (by rw [isSubtype_type]; kernel_rfl) isSubtype_stop hk hl hg hb (by decide)
theorem catches_own {x : Str} {p : Pos} {cl : Addr} {nm q : Str} {N : Addr} {bs bm : List Value} {hdct : Bool} {sn : List Str} {sub : List Value} {ab : Bool} {col : Option Bool} {dd : Option Addr} {k0 k1 k2 k3 k5 : Option Value} {newId : String}
    (g : GV C.h₀ x (.ref cl)) (hC : C.h₀.get? cl = some (excClassObj nm q cl N bs bm hdct sn sub ab col dd k0 k1 k2 k3 k5 newId)) (hbase : bm.contains (.type "BaseException") = true) (hk : C.env.scope.kind = .function := by rfl) (hl : C.env.kindOf x = some .globalImplicit := by rfl)
    (hg : C.env.globals = mainGlobals := by rfl) (hb : C.env.builtins = builtinsNs := by rfl) (hd : (x == ("__debug__" : Str)) = false := by decide) : catches C (.Name x p) (.ref cl) := by
  intro A' s e Q E k ⟨o, ho, hc⟩ q
  exact Calls.Name_function_global hk hl (g _ _ _ s _ _ hg hb k (wpAny_excMatches_sub_self (k _ _ hC) ho hc hbase q)) hd
end
end
section
section
variable {C : Cx} {m : Map} {σ : Sto} {Q : Value → Map → Sto → Prop}
theorem c_next_end {b I l : Addr} {vs : List Value} (hb : σ b = some (.raw (nextObj I))) (hI : σ I = some (.liter l vs.length)) (hl : σ l = some (.list vs))
    (h : ∀ o1 e oe t, σ e = none → e ≠ I → ExcIn ((σ.upd I (.raw o1)).upd e (.raw oe)) e false (.type "StopIteration") (.ref t) (hv C.A) → C.E (.ref e) m ((σ.upd I (.raw o1)).upd e (.raw oe))) : vcall C (.ref b) [] Q m σ := fun args' e => by
  have e0 : args' = [] := by simpa using e
  subst e0
  intro s st
  obtain ⟨o, ho, e⟩ := st.obj b _ hb
  have e' : o = nextObj I := e
  subst e'
  obtain ⟨oI, hoI, e⟩ := st.obj I _ hI
  have e' : oI = iterObj l vs.length := e
  subst e'
  obtain ⟨its, n, hi, ev⟩ := list_at st hl
  have h1 := arr_none ev
  refine wpAny_call (codeAny_of_tree ?_)
  show wpAny _ _ (callAny (.ref b) _) _ _ _
  refine nd_load ho ?_
  refine wpAny_bind (wpAny_pure ?_)
  show wpAny _ _ (checkBoundCall "list_iterator.__next__" ⟨[.ref I], []⟩ >>= fun _ => again (.builtin "list_iterator.__next__" ⟨[.ref I], []⟩)) _ _ _
  refine wpAny_bind (wpAny_of_eq (nx_pure I) ?_)
  refine wpAny_pure ⟨Code.quiet_builtin _ (by decide +kernel), codeAny_builtin entry_listiter_next ?_⟩
  rw [Around.under_plainId slot_listiter_next.plain _]
  show wpAny _ _ (field (.ref I) 0 >>= _) _ _ s
  refine wpAny_bind (wpAny_field hoI rfl (x := .ref l) rfl ?_)
  show wpAny _ _ (if (Value.ref l == Value.none) = true then _ else _) _ _ s
  rw [if_neg (show ¬ ((Value.ref l == Value.none) = true) from Bool.false_ne_true)]
  show wpAny _ _ (field (.ref I) 1 >>= _) _ _ s
  refine wpAny_bind (wpAny_field hoI rfl (x := .int vs.length 0) rfl ?_)
  show wpAny _ _ (seqItems? (.ref l) >>= _) _ _ s
  refine wpAny_bind (wpAny_seqItems hi rfl ?_)
  simp only [Int.toNat_natCast, h1]
  refine wpAny_bind (wpAny_rule (wpAny_bind (wpAny_setField hoI rfl (by simp) ?_)))
  have g : (s.heap.update I (Obj.mapFields (·.setIfInBounds 0 .none))).get? I = some ((iterObj l vs.length).mapFields (·.setIfInBounds 0 .none)) := Heap.get?_update_self _ hoI rfl
  obtain ⟨st', o'⟩ := st.turned (z := .raw ((iterObj l vs.length).mapFields (·.setIfInBounds 0 .none))) hI (Heap.SameBut.update ..) g rfl
  have st' : C.S (s.heap.update I (Obj.mapFields (·.setIfInBounds 0 .none))) m (σ.upd I (.raw ((iterObj l vs.length).mapFields (·.setIfInBounds 0 .none)))) := st'
  refine stop_any st'.hand.hh fun h' e k hge hx => ?_
  obtain ⟨t, hx⟩ := hx
  obtain ⟨st2, o2⟩ := st'.made (z := .raw { cls := .type "StopIteration", data := .fields #[.ref t, .none, hv C.A, .none, .bool false, .none] }) k hge hx rfl
  have eI : e ≠ I := fun q => Nat.lt_irrefl _ (Nat.lt_of_lt_of_le (Heap.lt_size g) (Nat.le_trans hge (Nat.le_of_eq q)))
  have ee : σ e = none := by
    have := st'.fresh hge
    rw [Sto.upd_ne eI] at this
    exact this
  refine ⟨m, _, _, s.toks, rfl, st2, o'.trans o2, h _ e _ t ee eI ?_⟩
  exact ⟨_, _, Sto.upd_same _ _ _, rfl, rfl, by simp, rfl, rfl, .inl ⟨rfl, rfl⟩⟩
end
end
section
structure ExcClsD where
  nm : Str
  q : Str
  N : Addr
  bs : List Value
  bm : List Value
  bmB : List Value
  hdct : Bool
  sn : List Str
  sub : List Value
  ab : Bool
  col : Option Bool
  dd : Option Addr
  k0 : Option Value
  k1 : Option Value
  k2 : Option Value
  k3 : Option Value
  k5 : Option Value
  B : String
  newId : String
  initId : String
  mN : Str → Option Value
@[reducible] def ExcClsD.obj (D : ExcClsD) (cl : Addr) : Obj := excClassObj D.nm D.q cl D.N D.bs D.bm D.hdct D.sn D.sub D.ab D.col D.dd D.k0 D.k1 D.k2 D.k3 D.k5 D.newId
structure ExcCls (h : Heap) (cl : Addr) (D : ExcClsD) : Prop where
  obj : h.get? cl = some (D.obj cl)
  ns : h.Ns D.N D.mN
  init : D.mN "__init__" = none
  tail : OwnTail h D.bmB D.bm
  base : ExcBaseFacts D.B D.newId D.initId D.bmB
theorem ExcCls.keeps {h h' : Heap} {cl : Addr} {D : ExcClsD} (x : ExcCls h cl D) (k : ∀ b o, h.get? b = some o → h'.get? b = some o) : ExcCls h' cl D :=
  ⟨k _ _ x.obj, x.ns.keeps k, x.init, x.tail.keeps k, x.base⟩
abbrev excObj (cl t : Addr) (ctx : Value) : Obj := { cls := .ref cl, data := .fields #[.ref t, .none, ctx, .none, .bool false, .none] }
section
variable {prog : Program} {w : World} {A : Around} {E : Value → Shared → Prop} {cl : Addr} {D : ExcClsD}
theorem exc_core {hp : Heap} {g : Array GenState} {d : Drawn} {tk : Nat} {os : OsState} {rest : List Value} {Q : Fin → Shared → Prop} (K : ExcCls hp cl D) (hz : rest.length ≤ sizeLine)
    (hq : ∀ h', (∀ b o, hp.get? b = some o → h'.get? b = some o) → h'.get? (hp.objs.size + 1) = some (excObj cl (hp.objs.size + 2) .none) → h'.get? (hp.objs.size + 2) = some { cls := .type "tuple", data := .seq rest.toArray } →
      Q (.done (.ret (.ref (hp.objs.size + 1)))) ⟨h', g, d, tk, os⟩) :
    wpAny (model prog w) A (Builtin.«type.__call__» ⟨.ref cl :: rest, []⟩) Q E ⟨hp, g, d, tk, os⟩ := by
  obtain ⟨hC, hn, hni, T, F⟩ := K
  repeat (first | with_reducible refine wpAny_loadPart_at hC ?_ | with_reducible refine wpAny_madeBy_exc hC ?_ | wp_step)
  refine codeAny_call_builtin_code (Code.quiet_builtin _ F.quiet) (wpAny_check_new_subT F T hC ?_)
  refine codeAny_exc_new_subT F T hC ?_ hz
  show wpAny _ _ _ _ _ _
  generalize hH : hp.push { cls := .type "tuple", data := .seq rest.toArray } = H
  have zH : H.objs.size = hp.objs.size + 1 := by rw [← hH, Heap.size_push]
  have k1 : ∀ b o, hp.get? b = some o → H.get? b = some o := fun b o e => hH ▸ Heap.get?_push_of_some _ e
  have k2 : ∀ b o, hp.get? b = some o → (H.push (excObj cl hp.objs.size .none)).get? b = some o := fun b o e => Heap.get?_push_of_some _ (k1 b o e)
  have he : (H.push (excObj cl hp.objs.size .none)).get? (hp.objs.size + 1) = some (excObj cl hp.objs.size .none) := by rw [← zH]; exact Heap.get?_push_size H rfl
  have hcC : (Value.ref cl :: D.bm).contains (.ref cl) = true := by simp
  have hC₁ := k2 _ _ hC
  have hn₁ := hn.keeps k2
  have T₁ := T.keeps k2
  unfold isInstance
  repeat (first | with_reducible refine wpAny_loadPart_at he ?_ | (with_reducible refine wpAny_isSubtype_exc hC₁ ?_; rw [hcC]) | wp_step)
  show wpAny _ _ (typeLookup (.ref cl) _) _ _ _
  refine wpAny_typeLookup_tail hC₁ hn₁ T₁ F.mroIs F.init.lookup ?_
  rw [hni]
  refine wpAny_holding (wpAny_bind (wpAny_of_eq (F.init.bind _) ?_))
  refine wpAny_bind (wpAny_call (codeAny_call_builtin F.init.plain F.initEntry (wpAny_check_init_subT F T₁ hC₁ he rfl ?_)))
  wp_walk
  refine hq _ (fun b o hb => ?_) ?_ ?_
  · rw [Heap.get?_update_other _ _ (Nat.ne_of_gt (Nat.lt_succ_of_lt (Heap.lt_size hb)))]
    exact Heap.get?_push_of_some _ (k2 b o hb)
  · rw [Heap.get?_update_self _ (Heap.get?_push_of_some _ he) rfl]
    simp only [Heap.size_push, zH]
    rfl
  · rw [Heap.get?_update_other _ _ (show hp.objs.size + 1 ≠ hp.objs.size + 2 by omega)]
    exact Heap.get?_push_at (by simp only [Heap.size_push, zH]) rfl
end
end
section
section
variable {C : Cx} {m : Map} {σ : Sto}
theorem St.made2 {h h' : Heap} (x : C.S h m σ) {a b : Addr} {y z : AO} {o p : Obj} (k : ∀ b o, h.get? b = some o → h'.get? b = some o) (ha : h.objs.size ≤ a) (hb : h.objs.size ≤ b) (ab : a ≠ b)
    (ga : h'.get? a = some o) (ia : IsO C.prog C.w y o) (gb : h'.get? b = some p) (ib : IsO C.prog C.w z p) : C.S h' m ((σ.upd a y).upd b z) ∧ Out C.env.locals σ h ((σ.upd a y).upd b z) h' := by
  have ne : ∀ {c o}, h.get? c = some o → c ≠ a ∧ c ≠ b := fun {c o} e => ⟨fun q => absurd (Heap.lt_size e) (by rw [q]; exact Nat.not_lt.mpr ha), fun q => absurd (Heap.lt_size e) (by rw [q]; exact Nat.not_lt.mpr hb)⟩
  have s1 : ∀ c, c ≠ a → c ≠ b → ((σ.upd a y).upd b z) c = σ c := fun c n1 n2 => by rw [Sto.upd_ne n2, Sto.upd_ne n1]
  have oo : Out C.env.locals σ h ((σ.upd a y).upd b z) h' := fun c o e n _ => ⟨.of (k c o e), by rw [s1 c (ne e).1 (ne e).2]; exact n⟩
  refine ⟨x.next (fun c ob _ e => k c ob e) oo (let ⟨mc, p, q⟩ := x.ns; ⟨mc, p.keeps k, q⟩) ?_ (fun c u ec => ?_) fun c hc => ?_, oo⟩
  · obtain ⟨_, ⟨oL, _, _, g, _⟩, _⟩ := x.ns
    rw [s1 _ (ne g).1 (ne g).2]; exact x.off
  · by_cases q : c = b
    · subst q
      rw [Sto.upd_same] at ec
      cases ec
      exact ⟨p, gb, ib⟩
    · by_cases q2 : c = a
      · subst q2
        rw [Sto.upd_ne ab, Sto.upd_same] at ec
        cases ec
        exact ⟨o, ga, ia⟩
      · rw [s1 c q2 q] at ec
        obtain ⟨ob, g, i⟩ := x.obj c u ec
        exact ⟨ob, k _ _ g, i⟩
  · by_cases q : c = b
    · subst q; exact Nat.le_trans x.big hb
    · by_cases q2 : c = a
      · subst q2; exact Nat.le_trans x.big ha
      · rw [s1 c q2 q] at hc
        exact x.old c hc
theorem c_exc {cl : Addr} {D : ExcClsD} {args : List Value} {Q : Value → Map → Sto → Prop} (K : ExcCls C.h₀ cl D) (hz : args.length ≤ sizeLine)
    (h : ∀ e t, σ e = none → σ t = none → t ≠ e → Q (.ref e) m ((σ.upd t (.tup args)).upd e (.raw (excObj cl t .none)))) : vcall C (.ref cl) args Q m σ := fun args' ea => by
  intro s st
  have K' := K.keeps st.keep
  obtain ⟨hp, g, d, tk, os⟩ := s
  have hC := K'.obj
  have f1 := tc_lookup
  have f2 := tc_bind (.ref cl)
  have hT : (⟨hp, g, d, tk, os⟩ : Shared).TypeIs (.ref cl) "type" := ⟨_, hC, rfl⟩
  refine wpAny_call (codeAny_of_tree ?_)
  show wpAny _ _ (callAny (.ref cl) _) _ _ _
  repeat (any_goals (first | assumption | with_reducible refine wpAny_loadPart_at hC ?_ | wp_step))
  refine ⟨rfl, ?_⟩
  refine codeAny_call_builtin_at (Code.quiet_builtin _ (by decide +kernel)) entry_typeCall (wpAny_check_type_call_sub hC (exc_core K' (by rw [← ea, List.length_map] at hz; exact hz) fun h' k ge gt => ?_))
  obtain ⟨st', o'⟩ := st.made2 (y := .tup args) (z := .raw (excObj cl (hp.objs.size + 2) .none)) k (a := hp.objs.size + 2) (b := hp.objs.size + 1) (by show hp.objs.size ≤ _; omega) (by show hp.objs.size ≤ _; omega) (Nat.ne_of_gt (Nat.lt_succ_self _)) gt ⟨_, 0, rfl, by simpa using ea⟩ ge rfl
  exact ⟨m, _, h', tk, rfl, st', o', h _ _ (st.fresh (by show hp.objs.size ≤ _; omega)) (st.fresh (by show hp.objs.size ≤ _; omega)) (Nat.ne_of_gt (Nat.lt_succ_self _))⟩
@[reducible] noncomputable def k_s_raise1 (C : Cx) := fun (v : Value) (m₁ : Map) (σ₁ : Sto) => ∃ cl D x t, ExcCls C.h₀ cl D ∧ v = .ref x ∧ σ₁ x = some (.raw (excObj cl t .none)) ∧ C.E (.ref x) m₁ σ₁
theorem s_raise {e : Expr} {pos : Pos} {Q : Flow → Map → Sto → Prop} (hh : C.A.handled = none)
    (h : C.V (eval e C.env) (k_s_raise1 C) m σ) : C.W (exec (.Raise (some e) none pos) C.env) Q m σ := by
  intro s st
  rw [arm_exec_Raise]
  show wpAny _ _ (standAt pos >>= fun _ => raiseStmt C.env (some (eval e C.env >>= fun v => standAt pos >>= fun _ => pure v)) none) _ _ s
  refine wpAny_bind (wpAny_standAt ?_)
  have z := h s st
  unfold raiseStmt
  refine wpAny_bind (wpAny_bind (wpAny_mono z (fun v s₁ p => ?_) fun _ _ p => p))
  obtain ⟨m₁, σ₁, h₁, t₁, rfl, st₁, o₁, cl, D, x, t, K, hv, hx, q⟩ := p
  rw [er_ref hv]
  refine wpAny_bind (wpAny_standAt (wpAny_pure ?_))
  have K' := K.keeps st₁.keep
  have hC := K'.obj
  have he := st₁.raws _ _ hx
  have hcB : (Value.ref cl :: D.bm).contains (.type "BaseException") = true := by rw [List.contains_cons, K.tail.hasType K.base.hasBase, Bool.or_true]
  obtain ⟨hp, g, d, tk, os⟩ := s
  repeat (first | with_reducible refine wpAny_loadPart_at he ?_ | with_reducible refine wpAny_loadPart_at hC ?_ | (with_reducible refine wpAny_isSubtype_exc hC ?_; rw [hcB]) | wp_step)
  exact wpAny_raiseNew_none hh ⟨m₁, σ₁, h₁, t₁, rfl, st₁, o₁, q⟩
end
end
section
def flies (E : Value → Sto → Prop) (v : Value) (σ : Sto) : Prop :=
  ∃ e n cls a0 ctx, v = .ref e ∧ ExcIn σ e n cls a0 ctx ∧ ∀ σ', ExcIn σ' e true cls a0 ctx → (∀ a, a ≠ e → σ a ≠ none → σ' a = σ a) → E (.ref e) σ'
@[reducible] noncomputable def k_fn_enterE1 (E : Value → Sto → Prop) := fun v (_ : Map) (σ' : Sto) => flies E v σ'
@[reducible] noncomputable def k_fn_enterE2 (Q : Value → Sto → Prop) := fun f (_ : Map) (σ' : Sto) => Q (er (flowVal f)) σ'
theorem fn_enterE {prog : Program} {w : World} {h₀ : Heap} {k : Nat} {fa : Addr} {o : Obj} {fd : FuncData} {body : List Stmt} {args : List Value} {Q E : Value → Sto → Prop} {σ : Sto}
    (ho : h₀.get? fa = some o) (hd : o.data = .func fd) (hbody : fd.body = .stmts body) (hclo : fd.closure = []) (hlim : h₀.NoLimit) (hcd : h₀.CodeRec fd.code fd.qualname)
    (B : List (Str × Value) → Sto → Prop)
    (hbind : ∀ (A : Around) (s : Shared) (vals : List Value), vals.map er = args → Rep prog w h₀ A s.heap σ → wpAny (model prog w) A.in1 (bindArgs fd ⟨vals, []⟩)
      (fun binds s' => ∃ σ₁ h tk, s' = { s with heap := h, toks := tk } ∧ Rep prog w h₀ A h σ₁ ∧ OutC σ s.heap σ₁ h ∧ B (erB binds) σ₁) (fun _ _ => False) s)
    (hkind : ∀ eb σ₁, B eb σ₁ → ∀ N, ∀ n ∈ eb.map (·.1), fd.scope.names.lookup n = some .local ∨ (fd.scope.names.lookup n = some .cell ∧ ((cellsFrom N fd.scope.names []).lookup n).isSome = true))
    (hnd : ∀ N, ((cellsFrom N fd.scope.names []).map (·.1)).Nodup)
    (h : ∀ (A : Around) (L : Addr) eb σ₁, Room A k → (∃ l, A.frames = some (callEnvC fd L fa :: l)) → B eb σ₁ → σ₁ L = none → (∀ c ∈ (callEnvC fd L fa).cells, σ₁ c.2 = none ∧ c.2 ≠ L) → WE prog w h₀ A L (k_fn_enterE1 E) (execs body (callEnvC fd L fa)) (k_fn_enterE2 Q)
      (bindL (callEnvC fd L fa).kindOf eb fun _ => none) (cellSto σ₁ (bindC (callEnvC fd L fa).kindOf eb fun _ => none) (callEnvC fd L fa).cells))
    (hco : fd.scope.isCoroutine = false := by rfl) (hgen : fd.scope.isGenerator = false := by rfl) (hk : fd.scope.kind = .function := by rfl) :
    Fn prog w h₀ (k + 1) (.ref fa) args Q E σ := by
  intro A s args' room hargs rep
  refine codeAny_call_function (by have := room.1; show A.depth < recursionLimit; unfold recursionLimit; omega) (rep.keep _ _ ho) hd hco hgen hbody (by
    obtain ⟨c, oc, vs, tq, hc, hoc, r⟩ := hcd
    exact ⟨c, oc, vs, tq, hc, rep.keep _ _ hoc, r⟩) ?_
  refine wpAny_mono (hbind A s args' hargs rep) (fun binds s' p => ?_) fun _ _ f => f.elim
  obtain ⟨σ₁, h₁, t₁, rfl, rep₁, o₁, hB⟩ := p
  rw [hclo]
  have names_eq : (erB binds).map (·.1) = binds.map (·.1) := by simp [erB, List.map_map, Function.comp_def]
  refine wpAny_newFunctionEnv_cells hk (fun x hx => hkind _ _ hB _ _ (by rw [names_eq]; exact List.mem_map_of_mem hx)) fun env he s₂ X => ?_
  subst he
  obtain ⟨h₂, t₂, rfl⟩ := X.toInCall.same
  have keep₂ : ∀ b ob, h₁.get? b = some ob → h₂.get? b = some ob := X.toInCall.keep
  refine ⟨(hlim.keeps rep₁.keep).keeps keep₂, codeAny_func ?_⟩
  show wpAny (model prog w) (A.deeper (callEnvC fd h₁.objs.size fa)) (execs body (callEnvC fd h₁.objs.size fa)) _ _ _
  have fresh : ∀ b, h₁.objs.size ≤ b → σ₁ b = none := fun b hb => by
    cases q : σ₁ b with
    | none => rfl
    | some y => exact absurd (rep₁.lt q) (Nat.not_lt.mpr hb)
  have hLn : σ₁ h₁.objs.size = none := fresh _ (Nat.le_refl _)
  have hcells : ∀ c ∈ (callEnvC fd h₁.objs.size fa).cells, σ₁ c.2 = none ∧ c.2 ≠ h₁.objs.size := fun c hc => by
    have l : h₁.objs.size < c.2 := X.above c.1 c.2 hc
    exact ⟨fresh _ (Nat.le_of_lt l), Nat.ne_of_gt l⟩
  have st₂ : St prog w h₀ (A.deeper (callEnvC fd h₁.objs.size fa)) h₁.objs.size h₂ (bindL (callEnvC fd h₁.objs.size fa).kindOf (erB binds) fun _ => none)
      (cellSto σ₁ (bindC (callEnvC fd h₁.objs.size fa).kindOf (erB binds) fun _ => none) (callEnvC fd h₁.objs.size fa).cells) := by
    refine { keep := fun b ob e => keep₂ _ _ (rep₁.keep _ _ e), obj := fun a y e => ?_, old := fun a e => ?_, hand := ?_, fr := ?_, big := ?_, ns := ?_, off := ?_, above := rep₁.big }
    · rcases cellSto_some e with e' | ⟨n, hm, rfl⟩
      · obtain ⟨ob, g, i⟩ := rep₁.obj a y e'
        exact ⟨ob, keep₂ _ _ g, i⟩
      · obtain ⟨ob, g, dt⟩ := X.cell n a (lookup_of_mem_nodup (hnd _) hm)
        refine ⟨ob, g, _, dt, ?_⟩
        rw [bindC_er]; rfl
    · cases q : cellSto σ₁ (bindC (callEnvC fd h₁.objs.size fa).kindOf (erB binds) fun _ => none) (callEnvC fd h₁.objs.size fa).cells a with
      | none => exact absurd q e
      | some y =>
        rcases cellSto_some q with e' | ⟨n, hm, rfl⟩
        · exact rep₁.old a (by rw [e']; intro c; cases c)
        · exact Nat.le_trans rep₁.big (Nat.le_of_lt (X.above n a hm))
    · show HOk (A.deeper _) h₂ _
      have hm : HOk A h₂ (cellSto σ₁ (bindC (callEnvC fd h₁.objs.size fa).kindOf (erB binds) fun _ => none) (callEnvC fd h₁.objs.size fa).cells) := by
        refine rep₁.hand.move fun a ob vs g n d z => ⟨keep₂ _ _ g, cellSto_none n fun n' c' hm q => ?_⟩
        have := X.above n' c' hm
        rw [← q] at this
        exact absurd (Heap.lt_size g) (Nat.not_lt.mpr (Nat.le_of_lt this))
      exact hm
    · obtain ⟨l, hl, k⟩ := rep₁.fr
      refine ⟨callEnvC fd h₁.objs.size fa :: l, by show A.frames.map _ = _; rw [hl]; rfl, fun env he => ?_⟩
      rcases List.mem_cons.mp he with rfl | he
      · obtain ⟨o', es, ep, g, dt, _⟩ := X.toInCall.ns
        refine ⟨?_, h₁.objs.size, o', es, ep, rfl, g, dt, rep₁.big, cellSto_none hLn fun n c hm q => ?_⟩
        · show fd.scope.kind ≠ .module
          rw [hk]; exact fun c => nomatch c
        · have := X.above n c hm
          rw [← q] at this
          exact Nat.lt_irrefl _ this
      · obtain ⟨km, L', ob, es, n, hf, g, d, bb, nn⟩ := k env he
        refine ⟨km, L', ob, es, n, hf, keep₂ _ _ g, d, bb, cellSto_none nn fun n' c' hm q => ?_⟩
        have := X.above n' c' hm
        rw [← q] at this
        exact absurd (Heap.lt_size g) (Nat.not_lt.mpr (Nat.le_of_lt this))
    · exact Nat.le_of_lt (Nat.lt_of_le_of_lt rep₁.big X.toInCall.ns.lt)
    · exact ⟨_, X.toInCall.ns, fun y => by rw [bindL_er]; rfl⟩
    · exact cellSto_none hLn fun n c hm q => by
        have := X.above n c hm
        rw [← q] at this
        exact Nat.lt_irrefl _ this
  have W := h (A.deeper (callEnvC fd h₁.objs.size fa)) h₁.objs.size (erB binds) σ₁ (room.deeper _) (let ⟨l, hl, _⟩ := rep₁.fr; ⟨l, by show A.frames.map _ = _; rw [hl]; rfl⟩) hB hLn hcells { s with heap := h₂, toks := t₂ } st₂
  have back : ∀ {σ' : Sto} {h' : Heap} {m' : Map}, St prog w h₀ (A.deeper (callEnvC fd h₁.objs.size fa)) h₁.objs.size h' m' σ' → Out h₁.objs.size (cellSto σ₁ (bindC (callEnvC fd h₁.objs.size fa).kindOf (erB binds) fun _ => none) (callEnvC fd h₁.objs.size fa).cells) h₂ σ' h' → Rep prog w h₀ A h' σ' ∧ OutC σ s.heap σ' h' := by
    intro σ' h' m' st o
    have o' : OutC σ₁ h₁ σ' h' := fun b ob e₁ n₁ => by
      have lt := Heap.lt_size e₁
      exact o b ob (keep₂ _ _ e₁) (cellSto_none n₁ fun n' c' hm q => by
        have := X.above n' c' hm
        rw [← q] at this
        exact absurd lt (Nat.not_lt.mpr (Nat.le_of_lt this))) (Nat.ne_of_lt lt)
    exact ⟨st.toRep.shallow, o₁.trans o'⟩
  refine wpAny_mono W (fun f s' p => ?_) fun e s' p => ?_
  · obtain ⟨m', σ', h', tk, rfl, st, o, q⟩ := p
    obtain ⟨r, oc⟩ := back st o
    exact ⟨σ', h', tk, rfl, r, oc, by cases f <;> exact q⟩
  · obtain ⟨m', σ', h', tk, rfl, st, o, a, n, cls, a0, ctx, rfl, x, q⟩ := p
    obtain ⟨l, hl⟩ : ∃ l, (A.deeper (callEnvC fd h₁.objs.size fa)).frames = some (callEnvC fd h₁.objs.size fa :: l) := let ⟨l, hl, _⟩ := rep₁.fr; ⟨l, by show A.frames.map _ = _; rw [hl]; rfl⟩
    unfold leaving
    refine wpAny_bind (noted (C := ⟨prog, w, h₀, A.deeper (callEnvC fd h₁.objs.size fa), callEnvC fd h₁.objs.size fa, botE⟩) (s := { s with heap := h', toks := tk }) st hl rfl x fun h₂ σ₂ st₂ o₂ x₂ k₂ => ?_)
    obtain ⟨r, oc⟩ := back st₂ (o.trans o₂)
    exact ⟨σ₂, h₂, tk, rfl, r, oc, q σ₂ x₂ k₂⟩
theorem call_fnE {C : Cx} {m : Map} {σ : Sto} {k : Nat} {f : Value} {args : List Value} {Q : Value → Map → Sto → Prop} (room : Room C.A k) (h : Fn C.prog C.w C.h₀ k f args (fun v σ' => Q v m σ') (fun v σ' => C.E v m σ') σ) : vcall C f args Q m σ := by
  intro args' e s st
  refine wpAny_call (codeAny_mono (h C.A s args' room e st.toRep) fun r s' p => ?_)
  obtain ⟨σ', h', tk, rfl, rep, oc, q⟩ := p
  have z : C.S h' m σ' := by
    obtain ⟨mc, hn, hm⟩ := st.ns
    have hL : ∀ o, s.heap.get? C.env.locals = some o → Kp h' C.env.locals o ∧ σ' C.env.locals = none := fun o ho => oc _ _ ho st.off
    obtain ⟨oL, _, _, hoL, _⟩ := id hn
    exact { toRep := rep, ns := ⟨mc, Kp.ns hn fun o ho => (hL o ho).1, hm⟩, off := (hL _ hoL).2, above := st.above }
  match r, q with
  | .ok (.ret v), q => exact ⟨m, σ', h', tk, rfl, z, oc.out, q⟩
  | .error e, q => exact ⟨m, σ', h', tk, rfl, z, oc.out, q⟩
@[reducible] noncomputable def k_fn_plainE1 (E : Value → Sto → Prop) := fun v (_ : Map) (σ' : Sto) => flies E v σ'
@[reducible] noncomputable def k_fn_plainE2 (Q : Value → Sto → Prop) := fun f (_ : Map) (σ' : Sto) => Q (er (flowVal f)) σ'
theorem fn_plainE {prog : Program} {w : World} {h₀ : Heap} {k : Nat} {fa : Addr} {o : Obj} {fd : FuncData} {body : List Stmt} {names : List Str} {args : List Value} {Q E : Value → Sto → Prop} {σ : Sto}
    (ho : h₀.get? fa = some o) (hd : o.data = .func fd) (hbody : fd.body = .stmts body) (hclo : fd.closure = []) (hlim : h₀.NoLimit) (hcd : h₀.CodeRec fd.code fd.qualname)
    (hb : ∀ vals, vals.map er = args → bindArgs fd ⟨vals, []⟩ = pure (names.zip vals))
    (hloc : (names.all fun n => fd.scope.names.lookup n == some NameKind.local) = true) (hcells : ∀ N, cellsFrom N fd.scope.names [] = [])
    (h : ∀ (A : Around) (L : Addr), Room A k → (∃ l, A.frames = some (callEnvC fd L fa :: l)) → σ L = none → WE prog w h₀ A L (k_fn_plainE1 E) (execs body (callEnvC fd L fa)) (k_fn_plainE2 Q) (bindL (callEnvC fd L fa).kindOf (names.zip args) fun _ => none) σ)
    (hco : fd.scope.isCoroutine = false := by rfl) (hgen : fd.scope.isGenerator = false := by rfl) (hk : fd.scope.kind = .function := by rfl) : Fn prog w h₀ (k + 1) (.ref fa) args Q E σ := by
  have hcl : ∀ L, (callEnvC fd L fa).cells = [] := fun L => hcells (L + 1)
  refine fn_enterE ho hd hbody hclo hlim hcd (fun eb σ₁ => eb = names.zip args ∧ σ₁ = σ) (fun A s vals hv rep => ?_) (fun eb σ₁ he N n hn => ?_) (fun N => by rw [hcells]; exact List.nodup_nil) (fun A L eb σ₁ room hf he hL hc => ?_) hco hgen hk
  · exact wpAny_of_eq (hb vals hv) ⟨σ, s.heap, s.toks, rfl, rep, OutC.refl _ _, by rw [zer, hv], rfl⟩
  · obtain ⟨rfl, rfl⟩ := he
    exact .inl (by have := List.all_eq_true.mp hloc n (zfst hn); simpa using this)
  · obtain ⟨rfl, rfl⟩ := he
    rw [hcl]
    exact h A L room hf hL
theorem excIn_made {σ : Sto} {e cl t : Addr} {ctx : Value} (h : σ e = some (.raw (excObj cl t ctx))) : ExcIn σ e false (.ref cl) (.ref t) ctx :=
  ⟨_, _, h, rfl, rfl, by simp, rfl, rfl, .inl ⟨rfl, rfl⟩⟩
end
section
section
variable {C : Cx} {m : Map} {σ : Sto} {Q : Value → Map → Sto → Prop}
@[reducible] noncomputable def k_v_attrT1 (C : Cx) (name : Str) (Q : Value → Map → Sto → Prop) := fun (ov : Value) (m₁ : Map) (σ₁ : Sto) => geta C ov name Q m₁ σ₁
theorem v_attrT {value : Expr} {name : Str} {pos : Pos} (h : C.V (eval value C.env) (k_v_attrT1 C name Q) m σ)
    (he : eval (.Attribute value name pos) C.env = (do let o ← eval value C.env; standAt pos.atName; let r ← holding [o] (getAttr o name true); letTemporaryGo value o r; pure r) := by with_unfolding_all rfl) : C.V (eval (.Attribute value name pos) C.env) Q m σ := by
  rw [he]
  refine WE.bind (WE.mono1 h fun o _ _ q => WE.bind (WE.standAt (WE.bind (WE.holding (WE.mono1 (q o rfl) fun r _ _ q => ?_)))))
  exact WE.bind (fun s st => wpAny_letTemporaryGo ⟨_, _, s.heap, s.toks, rfl, st, Out.refl _ _ _, WE.pure q⟩)
theorem o_getlast {l : Addr} {vs : List Value} {v : Value} (hl : σ l = some (.list (vs ++ [v]))) (hz : vs.length < 2 ^ 62) (h : Q v m σ) : op2 C getItem (.ref l) (.int (-1) 0) Q m σ := by
  intro a' b' ea eb
  rw [er_ref ea]
  obtain ⟨u, rfl⟩ := er_int eb
  refine WV.still _ h fun s Q' E' st q => ?_
  obtain ⟨its, n, hi, ev⟩ := list_at st hl
  have z := its_size ev
  rw [List.length_append, List.length_singleton] at z
  obtain ⟨v', h1, h2⟩ := arr_get (i := vs.length) (v := v) ev (by simp)
  refine wpAny_getItem_list_neg (k := -1) hi.isList (by omega) (by omega) (by omega) ?_ (q v' s.toks h2)
  have e : ((-1 : Int) + (its.size : Int)).toNat = vs.length := by omega
  rw [e]
  exact h1
end
end
section
theorem excCls_of {K : Frag} {h₀ : Heap} {p : Program} {loose : List Str} {mean : ExcName → Option Value} {mg mb : Str → Option Value} {x : Str} {cl : Addr} {B newId initId : String} {bmB : List Value} (X : K.In h₀) (T : Top p loose mean mg mb h₀)
    (e : nsIn K mainGlobals x = some (some (.ref cl))) (q : excIn K cl bmB newId = true) (F : ExcBaseFacts B newId initId bmB) : ∃ D, ExcCls h₀ cl D := by
  obtain ⟨bm, N, nm, qn, bs, hdct, sn, sub, ab, col, dd, k0, k1, k2, k3, k5, mN, hC, hN, hni, TL⟩ := (own_of_in X (topRead_of T) e q).obj
  exact ⟨⟨nm, qn, N, bs, bm, bmB, hdct, sn, sub, ab, col, dd, k0, k1, k2, k3, k5, B, newId, initId, mN⟩, hC, hN, hni, TL, F⟩
theorem catches_cls {C : Cx} {D : ExcClsD} {x : Str} {p : Pos} {cl : Addr} (g : GV C.h₀ x (.ref cl)) (K : ExcCls C.h₀ cl D) (hk : C.env.scope.kind = .function := by rfl) (hl : C.env.kindOf x = some .globalImplicit := by rfl)
    (hg : C.env.globals = mainGlobals := by rfl) (hb : C.env.builtins = builtinsNs := by rfl) (hd : (x == ("__debug__" : Str)) = false := by decide) : catches C (.Name x p) (.ref cl) :=
  catches_own g K.obj (K.tail.hasType K.base.hasBase) hk hl hg hb hd
section
variable {C : Cx} {m : Map} {σ : Sto} {Q : Value → Map → Sto → Prop}
theorem v_fstr1 {v : Expr} {pos : Pos} (h : C.V (eval v C.env) Q m σ) : C.V (eval (.JoinedStr [v] pos) C.env) Q m σ := fun s st => wpAny_JoinedStr_one (h s st)
end
end
section
def intsOk (es : Array DictEntry) : Bool := es.all fun e => match e.key with | .int i _ => e.hash == hashInt i | _ => false
theorem intTab {prog : Program} {w : World} {h : Heap} {a : Addr} {es : Array DictEntry} {ep : Nat} (g : h.get? a = some { cls := .type "dict", data := .dict es ep }) (ok : intsOk es = true) : h.MapOf (intKind prog w) a (fun k => findBy Value.isInt es k) := by
  refine ⟨_, es, ep, g, ⟨rfl, rfl, rfl⟩, rfl, fun e he => ?_, fun k => rfl⟩
  unfold intsOk at ok
  rw [Array.all_eq_true'] at ok
  have := ok e he
  cases hk : e.key with
  | int i t =>
    rw [hk] at this
    refine ⟨i, ?_, ?_⟩
    · show Value.isInt i (.int i t) = true
      simp [Value.isInt]
    · exact eq_of_beq this
  | _ => rw [hk] at this; cases this
section
variable {prog : Program} {w : World} {A : Around} {E : Value → Shared → Prop} {s : Shared} {a c : Nat} {f : Int → Option Value} {Q : Builtin.Str.Mapped → Shared → Prop}
theorem isInt_self (k : Int) (t : Tok) : (intKind prog w).is k (.int k t) = true := by
  show Value.isInt k (.int k t) = true
  simp [Value.isInt]
theorem tl_some {y : Str} {t : Tok} (hm : s.heap.MapOf (intKind prog w) a f) (hv : f c = some (.str y t)) (h : ∀ tk, Q (.text y) { s with toks := tk }) : wpAny (model prog w) A (Builtin.Str.tableLookup (.ref a) c) Q E s := by
  unfold Builtin.Str.tableLookup
  refine wpAny_bind (wpAny_attempt (wpAny_bind (wpAny_mkInt (wpAny_getItem_of (s := { s with toks := s.toks + 1 }) (isInt_self _ _) hm hv ?_))))
  show wpAny _ _ (asInt? (.str y t) >>= _) _ _ _
  refine wpAny_bind (wpAny_pure ?_)
  show wpAny _ _ (asStr? (.str y t) >>= _) _ _ _
  refine wpAny_bind (wpAny_pure ?_)
  exact wpAny_pure (h _)
theorem tl_none (hm : s.heap.MapOf (intKind prog w) a f) (hd : (a == sysModules) = false) (hh : A.handled = none) (hv : f c = none) (h : ∀ h' tk, (∀ b o, s.heap.get? b = some o → h'.get? b = some o) → Q .keep { s with heap := h', toks := tk }) :
    wpAny (model prog w) A (Builtin.Str.tableLookup (.ref a) c) Q E s := by
  unfold Builtin.Str.tableLookup
  refine wpAny_bind (wpAny_attempt (wpAny_bind (wpAny_mkInt (wpAny_getItem_missing_of (s := { s with toks := s.toks + 1 }) (isInt_self _ _) hd hh hm hv fun h' e x => ?_))))
  obtain ⟨k, _, ob, t, g, hc, _⟩ := x
  refine wpAny_bind (wpAny_isInstance (T := "KeyError") (b := true) ⟨ob, g, hc⟩ (by rw [isSubtype_type]; kernel_rfl) ?_)
  exact wpAny_bind (wpAny_rule (wpAny_pure (h _ _ k)))
end
section
variable {C : Cx} {m : Map} {σ : Sto} {Q : Value → Map → Sto → Prop}
theorem c_translate1 {a c : Nat} {y : Option Str} {f : Int → Option Value} (hc : c < 128) (hm : C.h₀.MapOf (intKind C.prog C.w) a f) (hd : (a == sysModules) = false) (hh : C.A.handled = none) (hf : (f c).map er = y.map sv) (hy : ∀ z, y = some z → z.length = 2)
    (h : Q (sv (y.getD (S [c]))) m σ) : vcall C (.builtin "str.translate") [sv (S [c]), .ref a] Q m σ := fun args' e => by
  obtain ⟨u, b, rfl, ea, eb⟩ := inv2 e
  obtain ⟨t, rfl⟩ := er_str ea
  rw [er_ref eb]
  intro s st
  refine wpAny_call (codeAny_call_builtin F.slot_str_translate.plain F.entry_str_translate (F.slot_str_translate.check _ _ _ _ _ _ _ _ (typeIs_str _ _ _) (F.args_str_translate_2 _ _) ?_))
  unfold Builtin.«str.translate»
  refine wpAny_bind (wpAny_of_eq (a := (.str (S [c]) t, S [c], .ref a)) rfl ?_)
  have fa : ∀ {β : Type} (init : β) (f : Nat → β → Sem (ForInStep β)), forIn (S [c]).cps init f = (f c init >>= fun r => match r with | .done b => pure b | .yield b => pure b) := by
    intro β init f
    rw [← Array.forIn_toList]
    show forIn [c] init f = _
    rw [List.forIn_cons]
    rfl
  have h1 : ((S [c]).length == 0) = false := rfl
  have h2 : ((S [c]).cps.all fun x => decide (x < 128)) = true := by simp [S, hc]
  simp only [h1, h2, Bool.false_eq_true, if_false, fa, List.lookup_nil, if_true]
  have t0 : Builtin.Str.tooLong 0 = false := by decide +kernel
  rw [if_neg (by rw [t0]; exact Bool.false_ne_true)]
  have hm' : s.heap.MapOf (intKind C.prog C.w) a f := by
    obtain ⟨o, es, ep, g, r⟩ := hm
    exact ⟨o, es, ep, st.keep _ _ g, r⟩
  cases y with
  | none =>
    have hv : f c = none := by simpa using hf
    refine wpAny_bind (wpAny_bind (wpAny_bind (tl_none hm' hd hh hv fun h' tk k => ?_)))
    refine wpAny_bind (wpAny_pure ?_)
    refine wpAny_pure ?_
    refine wpAny_pure ?_
    show wpAny _ _ (if Builtin.Str.tooLong 1 = true then _ else retStr ⟨#[] ++ #[c]⟩) _ _ _
    rw [if_neg (by rw [show Builtin.Str.tooLong 1 = false from by decide +kernel]; exact Bool.false_ne_true)]
    refine wpAny_bind (wpAny_mkStr (hx := by simp [Str.length, sizeLine_eq]) (wpAny_pure ?_))
    obtain ⟨st', o'⟩ := st.grown k
    refine ⟨m, σ, h', _, rfl, st', o', ?_⟩
    have : er (Value.str ⟨#[] ++ #[c]⟩ tk) = sv (S [c]) := by simp [er, sv, S]
    show Q (er (Value.str ⟨#[] ++ #[c]⟩ tk)) m σ
    rw [this]
    exact h
  | some y =>
    obtain ⟨v, hv, ev⟩ := Option.map_eq_some_iff.mp hf
    obtain ⟨t1, rfl⟩ := er_str ev
    have hl := hy y rfl
    have hne : (y.length == 1) = false := by rw [hl]; rfl
    refine wpAny_bind (wpAny_bind (wpAny_bind (tl_some hm' hv fun tk => ?_)))
    simp only [hne, Bool.false_and, Bool.false_eq_true, if_false]
    refine wpAny_bind (wpAny_pure ?_)
    refine wpAny_bind (wpAny_rule ?_)
    refine wpAny_bind (tl_some (s := { s with toks := tk }) hm' hv fun tk => ?_)
    refine wpAny_pure ?_
    refine wpAny_pure ?_
    show wpAny _ _ (if Builtin.Str.tooLong (0 + y.length) = true then _ else retStr ⟨#[] ++ y.cps⟩) _ _ _
    rw [hl, if_neg (by rw [show Builtin.Str.tooLong (0 + 2) = false from by decide +kernel]; exact Bool.false_ne_true)]
    refine wpAny_bind (wpAny_mkStr (hx := by simp only [Array.empty_append]; show y.length ≤ sizeLine; rw [hl, sizeLine_eq]; omega) (wpAny_pure ?_))
    refine ⟨m, σ, s.heap, _, rfl, st, Out.refl _ _ _, ?_⟩
    have : er (Value.str ⟨#[] ++ y.cps⟩ tk) = sv y := by simp [er, sv]
    show Q (er (Value.str ⟨#[] ++ y.cps⟩ tk)) m σ
    rw [this]
    exact h
end
end
section
abbrev plainObj : Obj := { cls := .type "object", data := .plain }
theorem mro_obj : mroOf (.type "object") = pure [.type "object"] := by rw [mroOf_type]; kernel_rfl
theorem look_obj_new : typeLookup (.type "object") "__new__" = pure (some (.builtin "object.__new__")) := by rw [typeLookup_type, builtinLookup_eq_fast]; kernel_rfl
theorem new_obj_call : checkBuiltinCall "object.__new__" ⟨[.type "object"], []⟩ = pure () := by kernel_rfl
theorem type_obj_call : checkTypeCall "object" ⟨[], []⟩ = pure () := by kernel_rfl
theorem made_obj : Bind.madeBy (.type "object") = pure (some "object.__new__") := madeBy_type mro_obj look_obj_new (by decide +kernel)
theorem plain_obj_new : plainId "object.__new__" = true := by decide +kernel
theorem madeHere_obj : Bind.madeHere "object.__new__" (.type "object") = pure () := by
  unfold Bind.madeHere
  have e : Bind.staticBase (.type "object") = pure (.type "object") := by first | rfl | kernel_rfl
  rw [e]
  simp only [pure_bind, made_obj]
  first | rfl | kernel_rfl | (simp; rfl)
theorem called_obj : TypeCalled "object" "object.__new__" "object.__init__" :=
  ⟨by decide +kernel, by decide +kernel, ⟨_, _, mro_obj⟩, made_obj, plain_obj_new, by rw [isSubtype_type]; kernel_rfl, F.slot_object_init⟩
section
variable {C : Cx} {m : Map} {σ : Sto} {Q : Value → Map → Sto → Prop}
theorem code_obj_new {prog : Program} {w : World} {A : Around} {E : Value → Shared → Prop} {s : Shared} {Q₁ : Value → Shared → Prop} (h : Q₁ (.ref s.heap.objs.size) { s with heap := s.heap.push plainObj }) :
    codeAny (model prog w) A (.call (.builtin "object.__new__") ⟨[.type "object"], []⟩) (wants Q₁ E) s := by
  refine codeAny_of_tree ?_
  show wpAny _ A.in1 (do checkBuiltinCall "object.__new__" ⟨[.type "object"], []⟩; again (.builtin "object.__new__" ⟨[.type "object"], []⟩)) _ _ s
  refine wpAny_bind (wpAny_of_eq new_obj_call (wpAny_pure ⟨plainId_quiet plain_obj_new _, codeAny_builtin F.objNew.entry ?_⟩))
  rw [Around.under_plainId plain_obj_new _]
  unfold Builtin.«object.__new__»
  obtain ⟨hp, g, d, tk, os⟩ := s
  have hT : isType (.type "object") = pure true := by first | rfl | kernel_rfl
  simp only [hT, pure_bind]
  refine wpAny_bind (wpAny_of_eq madeHere_obj ?_)
  rw [if_neg (by decide)]
  have h1 : typeHasDict (.type "object") = false := by decide +kernel
  have h2 : diesByItsTypesDel "object" = false := by decide +kernel
  simp only [h1, h2, Bool.false_eq_true, if_false]
  refine wpAny_bind (wpAny_newObj_type ?_)
  exact wpAny_pure h
theorem c_object (h : ∀ D, σ D = none → Q (.ref D) m (σ.upd D (.raw plainObj))) : vcall C (.type "object") [] Q m σ := fun args' e => by
  have : args' = [] := by simpa using e
  subst this
  intro s st
  refine callType_codes (Q₁ := fun v s₁ => v = .ref s.heap.objs.size ∧ s₁ = { s with heap := s.heap.push plainObj }) called_obj type_obj_call F.entry_object_init (code_obj_new ⟨rfl, rfl⟩) ?_
  rintro obj s₁ ⟨rfl, rfl⟩
  refine ⟨⟨plainObj, Heap.get?_push_size _ rfl, rfl⟩, F.args_object_init_1 _, ?_⟩
  refine wpAny_pure ⟨rfl, ?_⟩
  obtain ⟨st', o'⟩ := st.newRaw plainObj rfl
  exact ⟨m, _, _, s.toks, rfl, st', o', h _ (st.fresh (Nat.le_refl _))⟩
theorem o_isnot_str_ref {x : Str} {a : Addr} (h : Q (.bool true) m σ) : op2 C (compareOp .IsNot) (.str x 0) (.ref a) Q m σ := fun a' b' ea eb => by
  obtain ⟨t, rfl⟩ := er_str ea
  rw [er_ref eb]
  exact WV.still _ h fun s Q' E' st q => wpAny_isNot_other rfl (fun c => nomatch c) (q _ s.toks rfl)
theorem o_is_self {a : Addr} (h : Q (.bool true) m σ) : op2 C (compareOp .Is) (.ref a) (.ref a) Q m σ := fun a' b' ea eb => by
  rw [er_ref ea, er_ref eb]
  exact WV.still _ h fun s Q' E' st q => wpAny_is_ref_self (q _ s.toks rfl)
theorem o_isnot_self {a : Addr} (h : Q (.bool false) m σ) : op2 C (compareOp .IsNot) (.ref a) (.ref a) Q m σ := fun a' b' ea eb => by
  rw [er_ref ea, er_ref eb]
  exact WV.still _ h fun s Q' E' st q => wpAny_isNot_ref_self (q _ s.toks rfl)
end
end
section
theorem upd_keep {σ : Sto} {a d : Addr} {y z w : AO} (h : σ a = some y) (hd : σ d = some z) (hne : y ≠ z) : (σ.upd d w) a = some y := by
  rw [Sto.upd_ne]
  · exact h
  · rintro rfl
    rw [h] at hd
    exact hne (Option.some.inj hd)
theorem upd_fresh {σ : Sto} {a d : Addr} {y w : AO} (h : σ a = some y) (hd : σ d = none) : (σ.upd d w) a = some y := by
  rw [Sto.upd_ne]
  · exact h
  · rintro rfl
    rw [h] at hd
    cases hd
theorem sup_upd {σ₀ σ : Sto} {a : Addr} {w : AO} (h : ∀ b y, σ₀ b = some y → σ b = some y) (n : σ₀ a = none) : ∀ b y, σ₀ b = some y → (σ.upd a w) b = some y := fun b y e => by
  rw [Sto.upd_ne (fun q => by rw [q, n] at e; cases e)]
  exact h b y e
theorem ne_of_none {σ : Sto} {a b : Addr} {y : AO} (e : σ a = some y) (n : σ b = none) : a ≠ b := fun q => by rw [q, n] at e; cases e
theorem sup_none {σ₀ σ : Sto} (h : ∀ b y, σ₀ b = some y → σ b = some y) {a : Addr} (n : σ a = none) : σ₀ a = none := by
  cases e : σ₀ a with
  | none => rfl
  | some y => have := h a y e; rw [n] at this; cases this
section
variable {C : Cx} {m : Map} {σ : Sto} {Q : Value → Map → Sto → Prop}
theorem c_isinst_str {x : Str} (h : Q (.bool true) m σ) : vcall C (.builtin "isinstance") [.str x 0, .type "str"] Q m σ := fun args' e => by
  obtain ⟨a, b, rfl, ea, eb⟩ := inv2 e
  obtain ⟨t, rfl⟩ := er_str ea
  rw [er_type eb]
  refine WV.still _ h fun s _ _ st q => ?_
  exact call_isinstance (isinstance_true (Tx := "str") (by kernel_rfl) (by rw [isSubtype_type]; kernel_rfl)) ⟨typeIs_str _ _ _, q _ s.toks rfl⟩
end
end
section
theorem Fn.mono {prog : Program} {w : World} {h₀ : Heap} {k : Nat} {f : Value} {args : List Value} {Q Q' E : Value → Sto → Prop} {σ : Sto} (h : Fn prog w h₀ k f args Q E σ) (q : ∀ v σ', Q v σ' → Q' v σ') : Fn prog w h₀ k f args Q' E σ := by
  intro A s args' room e rep
  refine codeAny_mono (h A s args' room e rep) fun r s' p => ?_
  obtain ⟨σ', h', tk, e, rep', oc, p⟩ := p
  refine ⟨σ', h', tk, e, rep', oc, ?_⟩
  match r, p with
  | .ok (.ret v), p => exact q _ _ p
  | .error e, p => exact p
section
variable {C : Cx} {m : Map} {σ : Sto}
@[reducible] noncomputable def k_s_asgswap1 (C : Cx) (x : Str) (v₁) (Q : Flow → Map → Sto → Prop) := fun (m₂ : Map) (σ₂ : Sto) => put1 C x v₁ (Q .next) m₂ σ₂
@[reducible] noncomputable def k_s_asgswap2 (C : Cx) (y : Str) (x : Str) (Q : Flow → Map → Sto → Prop) := fun (v : Value) (m₁ : Map) (σ₁ : Sto) => ∃ t v₁ v₂, v = .ref t ∧ σ₁ t = some (.tup [v₁, v₂]) ∧ put1 C y v₂ (k_s_asgswap1 C x v₁ Q) m₁ σ₁
theorem s_asgswap {e₁ e₂ : Expr} {x y : Str} {k : Nat} {p : Pos} {value : Expr} {pos : Pos} {Q : Flow → Map → Sto → Prop} (hh : C.A.handled = none)
    (h : C.V (eval value C.env) (k_s_asgswap2 C y x Q) m σ)
    (hs : swapsWithSole [.Tuple [e₁, e₂] k p] value pos.line C.env = pure false := by rfl)
    (hw : swappedStores [.Tuple [e₁, e₂] k p] value C.env = pure (some [x, y]) := by rfl) : C.W (exec (.Assign [.Tuple [e₁, e₂] k p] value pos) C.env) Q m σ := by
  intro s st
  refine Assign_Tuple_swapped (names := [x, y]) (wpAny_mono (h s st) (fun v s₁ p => ?_) fun _ _ e => e) hs hw
  obtain ⟨m₁, σ₁, h₁, t₁, rfl, st₁, o₁, t, v₁, v₂, hv, ht, q⟩ := p
  rw [er_ref hv]
  obtain ⟨its, n, hi, ev⟩ := tup_at st₁ ht
  have z := its_size ev
  obtain ⟨a, b, hl, ea, eb⟩ := inv2 ev
  have e2 : [x, y].length = its.size := z.symm
  rw [e2]
  refine unpackItems_tuple (s := { s with heap := h₁, toks := t₁ }) hh ⟨_, hi, rfl, n, rfl⟩ fun h' hx => ?_
  rw [hl]
  obtain ⟨st₂, o₂⟩ := st₁.grown fun b o e => hx b o (Nat.ne_of_lt (Heap.lt_size e)) e
  show wpAny _ _ (do holding [a] (bindName C.env y b); assignInOrder [bindName C.env x] [a]) _ _ _
  refine wpAny_bind (wpAny_holding (wpAny_mono (WE.bindName (q b eb) { s with heap := h', toks := t₁ } st₂) (fun _ s₃ p => ?_) fun _ _ p => PostW.trans (t₁ := t₁) (o₁.trans o₂) p))
  obtain ⟨m₃, σ₃, h₃, t₃, rfl, st₃, o₃, q⟩ := p
  show wpAny _ _ (do holding [] (bindName C.env x a); pure ()) _ _ _
  exact wpAny_bind (wpAny_holding (wpAny_mono (WE.bindName (q a ea) _ st₃) (fun _ _ p => wpAny_pure (PostW.conv (PostW.trans ((o₁.trans o₂).trans o₃) p) fun _ _ q => q)) fun _ _ p => PostW.trans ((o₁.trans o₂).trans o₃) p))
end
end
section
section
variable {C : Cx} {m : Map} {σ : Sto} {Q : Value → Map → Sto → Prop}
def fparts (C : Cx) (acc : List Nat) (es : List Expr) (Q : Value → Map → Sto → Prop) (m : Map) (σ : Sto) : Prop := C.V (joinParts (S acc) (evalEach es C.env)) Q m σ
theorem fp_nil {acc : List Nat} (hz : acc.length ≤ sizeLine) (h : Q (sv (S acc)) m σ) : fparts C acc [] Q m σ :=
  WV.still _ h fun s Q' E' st q => joinParts_nil (q _ _ rfl) (by rw [S_len]; exact hz)
@[reducible] noncomputable def k_fp_cons1 (acc : List Nat) (C : Cx) (es : List Expr) (Q : Value → Map → Sto → Prop) := fun v (m₁ : Map) (σ₁ : Sto) => ∃ y, v = sv (S y) ∧ acc.length + y.length ≤ sizeLine ∧ fparts C (acc ++ y) es Q m₁ σ₁
theorem fp_cons {acc : List Nat} {e : Expr} {es : List Expr} (h : C.V (eval e C.env) (k_fp_cons1 acc C es Q) m σ)
    (he : evalEach (e :: es) C.env = eval e C.env :: evalEach es C.env := by rfl) : fparts C acc (e :: es) Q m σ := by
  intro s st
  rw [he]
  refine joinParts_cons (wpAny_mono (h s st) (fun v s₁ p => ?_) fun _ _ e => e)
  obtain ⟨m₁, σ₁, h₁, t₁, rfl, st₁, o₁, y, hv, hz, q⟩ := p
  obtain ⟨t, rfl⟩ := er_str hv
  have e : S acc ++ S y = S (acc ++ y) := by rw [str_add_eq]; rfl
  show (S acc ++ S y).length ≤ sizeLine ∧ _
  rw [e]
  refine ⟨by rw [S_len, List.length_append]; exact hz, ?_⟩
  exact wpAny_mono (q _ st₁) (fun _ _ p => PostW.conv (PostW.trans o₁ p) fun _ _ q => q) fun _ _ p => PostW.trans o₁ p
theorem v_fstr {v₁ v₂ : Expr} {rest : List Expr} {pos : Pos} (h : fparts C [] (v₁ :: v₂ :: rest) Q m σ) : C.V (eval (.JoinedStr (v₁ :: v₂ :: rest) pos) C.env) Q m σ := fun s st => JoinedStr_many (h s st)
@[reducible] noncomputable def k_v_fval1 (Q : Value → Map → Sto → Prop) := fun v (m₁ : Map) (σ₁ : Sto) => ∃ x, v = sv x ∧ x.length ≤ sizeLine ∧ Q v m₁ σ₁
theorem v_fval {value : Expr} {pos : Pos} (h : C.V (eval value C.env) (k_v_fval1 Q) m σ) : C.V (eval (.FormattedValue value (-1) none pos) C.env) Q m σ := by
  intro s st
  refine FormattedValue_plain (wpAny_mono (h s st) (fun v s₁ p => ?_) fun _ _ e => e)
  obtain ⟨m₁, σ₁, h₁, t₁, rfl, st₁, o₁, x, hv, hz, q⟩ := p
  obtain ⟨t, rfl⟩ := er_str hv
  exact formatField_str (fun t' tk => ⟨m₁, σ₁, h₁, tk, rfl, st₁, o₁, q⟩) hz
def cat (xs : List Str) : Str := S (xs.flatMap L)
theorem strsAre_of : ∀ {vs : List Value} {ys : List Str}, vs.map er = ys.map sv → StrsAre vs ys
  | [], [], _ => .nil
  | v :: vs, y :: ys, e => by
    simp only [List.map_cons, List.cons.injEq] at e
    obtain ⟨t, rfl⟩ := er_str e.1
    exact .cons y t (strsAre_of e.2)
  | [], _ :: _, e => by simp at e
  | _ :: _, [], e => by simp at e
theorem join_cat0 : ∀ (ys : List Str), Str.join (S []) ys = cat ys
  | [] => rfl
  | [y] => by
    show y = _
    simp [cat]
  | x :: y :: r => by
    show x ++ S [] ++ Str.join (S []) (y :: r) = _
    rw [join_cat0 (y :: r), str_add_eq, str_add_eq]
    simp [cat]
theorem join_cat (ys : List Str) : Txt.join (S []) ys = cat ys := (StrLaws.glued_eq_join _ _).trans (join_cat0 ys)
theorem cat_len (ys : List Str) : (L (cat ys)).length = (ys.map (·.length)).sum := by
  induction ys with
  | nil => rfl
  | cons y r ih =>
    unfold cat at ih ⊢
    simp only [L_S, List.flatMap_cons, List.length_append, List.map_cons, List.sum_cons, L_len] at ih ⊢
    rw [ih]
theorem c_join {l : Addr} {ys : List Str} (hl : σ l = some (.list (ys.map sv))) (hz : (ys.map (·.length)).sum ≤ 1000000) (h : Q (sv (cat ys)) m σ) : vcall C (.builtin "str.join") [sv (S []), .ref l] Q m σ := fun args' e => by
  obtain ⟨a, b, rfl, ea, eb⟩ := inv2 e
  obtain ⟨t, rfl⟩ := er_str ea
  rw [er_ref eb]
  refine WV.still _ h fun s Q' E' st q => ?_
  obtain ⟨its, n, hi, ev⟩ := list_at st hl
  exact join_list hi.isList (strsAre_of ev) (by rw [S_len]; simp; omega) fun t' k => q _ k (by rw [join_cat])
end
end
section
open PySem PySem.W PyProof.Rows PySem.Builtin PySem.Builtin.Str PySem.StrLaws
theorem take1 {l : List Nat} {a c : Nat} : ((l.drop a).take 1 == [c]) = (l[a]? == some c) := by
  by_cases h : a < l.length
  · rw [List.drop_eq_getElem_cons h, List.getElem?_eq_getElem h, List.take_succ_cons, List.take_zero]
    show (l[a] == c && true) = (l[a] == c)
    simp
  · rw [List.drop_of_length_le (by omega), List.getElem?_eq_none (by omega)]
    rfl
theorem occ1_go (x : Str) (c : Nat) : ∀ (k a : Nat) (st : Array Nat × Nat), st.2 ≤ a → st.1.size ≤ a → a + k ≤ x.length + 1 →
    (forIn (List.range' a k) st (occBody x (S [c]) x.length (x.length + 1))).run.fst.toList = st.1.toList ++ (List.range' a k).filter (fun i => (L x)[i]? == some c)
  | 0, a, st, _, _, _ => by simp
  | k + 1, a, st, h1, h2, h3 => by
    rw [List.range'_succ, List.forIn_cons]
    have hs : subAt x (S [c]) a = ((L x)[a]? == some c) := by rw [subAt_eq]; exact take1
    unfold occBody
    by_cases q : (L x)[a]? = some c
    · have hlt : a < x.length := by
        have := (List.getElem?_eq_some_iff.mp q).1
        rw [L_len] at this; exact this
      rw [if_pos ⟨⟨⟨by omega, h1⟩, by rw [S_len]; exact hlt⟩, by rw [hs, q]; simp⟩]
      have ih := occ1_go x c k (a + 1) (st.1.push a, a + (S [c]).length) (by rw [S_len]; simp) (by simp; omega) (by omega)
      have e : (List.range' a (k + 1)).filter (fun i => (L x)[i]? == some c) = a :: (List.range' (a + 1) k).filter (fun i => (L x)[i]? == some c) := by
        rw [List.range'_succ, List.filter_cons_of_pos (by rw [q]; simp)]
      rw [List.filter_cons_of_pos (by rw [q]; simp)]
      refine ih.trans ?_
      simp
    · rw [if_neg (by rw [hs]; intro z; exact q (by simpa using z.2))]
      have ih := occ1_go x c k (a + 1) st (by omega) (by omega) (by omega)
      rw [List.filter_cons_of_neg (by simpa using q)]
      exact ih
theorem occ1 (x : Str) (c : Nat) : occurrences x (S [c]) 0 x.length (x.length + 1) = (List.range' 0 (x.length + 1)).filter (fun i => (L x)[i]? == some c) := by
  rw [occ_eq]
  have := occ1_go x c (x.length + 1) 0 (#[], 0) (Nat.le_refl _) (Nat.le_refl _) (by omega)
  simpa using this
def each (c : Nat) (z : List Nat) (l : List Nat) : List Nat := l.flatMap fun d => if d = c then z else [d]
theorem L_strSub (x : Str) (i j : Nat) : L (strSub x i j) = ((L x).drop i).take (j - i) := strSub_toList x i j
theorem L_app (x y : Str) : L (x ++ y) = L x ++ L y := by rw [str_add_eq]; rfl
theorem join_front (z p q : Str) (r : List Str) : L (Str.join z ((p ++ q) :: r)) = L p ++ L (Str.join z (q :: r)) := by
  cases r with
  | nil => exact L_app p q
  | cons y r =>
    show L (p ++ q ++ z ++ Str.join z (y :: r)) = L p ++ L (q ++ z ++ Str.join z (y :: r))
    simp [L_app]
theorem join_each (x : Str) (c : Nat) (z : List Nat) : ∀ (k a : Nat), a + k = x.length → L (Str.join (S z) (partsFrom x 1 a ((List.range' a (k + 1)).filter (fun i => (L x)[i]? == some c)))) = each c z ((L x).drop a)
  | 0, a, h => by
    have hn : (L x)[a]? = none := List.getElem?_eq_none (by rw [L_len]; omega)
    have : (List.range' a 1).filter (fun i => (L x)[i]? == some c) = [] := by simp [List.range'_one, hn]
    rw [this]
    show L (strSub x a x.length) = _
    rw [L_strSub, List.drop_of_length_le (by rw [L_len]; omega)]
    simp [each]
  | k + 1, a, h => by
    have hlt : a < (L x).length := by rw [L_len]; omega
    have ih := join_each x c z k (a + 1) (by omega)
    have hd : (L x).drop a = (L x)[a] :: (L x).drop (a + 1) := List.drop_eq_getElem_cons hlt
    rw [List.range'_succ]
    by_cases q : (L x)[a]? = some c
    · rw [List.filter_cons_of_pos (by rw [q]; simp)]
      have hc : (L x)[a] = c := by rw [List.getElem?_eq_getElem hlt] at q; exact Option.some.inj q
      show L (Str.join (S z) (strSub x a a :: partsFrom x 1 (a + 1) _)) = _
      obtain ⟨p, r, e⟩ := partsFrom_ne x 1 (a + 1) ((List.range' (a + 1) (k + 1)).filter (fun i => (L x)[i]? == some c))
      rw [e] at ih ⊢
      show L (strSub x a a ++ S z ++ Str.join (S z) (p :: r)) = _
      rw [L_app, L_app, L_strSub, ih, hd, hc]
      simp [each]
    · rw [List.filter_cons_of_neg (by simpa using q)]
      have hc : (L x)[a] ≠ c := by
        intro e
        rw [List.getElem?_eq_getElem hlt, e] at q
        exact q rfl
      have key : ∀ cuts : List Nat, (∀ i ∈ cuts, a + 1 ≤ i) → L (Str.join (S z) (partsFrom x 1 a cuts)) = (L x)[a] :: L (Str.join (S z) (partsFrom x 1 (a + 1) cuts)) := by
        intro cuts hcu
        cases cuts with
        | nil =>
          show L (strSub x a x.length) = _ :: L (strSub x (a + 1) x.length)
          rw [L_strSub, L_strSub, hd, show x.length - a = (x.length - (a + 1)) + 1 by omega, List.take_succ_cons]
        | cons i r =>
          have hi := hcu i (.head _)
          have e : strSub x a i = S [(L x)[a]] ++ strSub x (a + 1) i := by
            have : L (strSub x a i) = L (S [(L x)[a]] ++ strSub x (a + 1) i) := by
              rw [L_app, L_strSub, L_strSub, hd, show i - a = (i - (a + 1)) + 1 by omega, List.take_succ_cons]
              rfl
            have := congrArg S this
            simpa using this
          show L (Str.join (S z) (strSub x a i :: partsFrom x 1 (i + 1) r)) = _
          rw [e, join_front]
          rfl
      rw [key _ (fun i hi => by
        have := (List.mem_filter.mp hi).1
        rw [List.mem_range'_1] at this
        exact this.1), ih, hd]
      unfold each
      rw [List.flatMap_cons, if_neg hc]
      rfl
theorem replace1 (x : Str) (c : Nat) (z : List Nat) : Txt.replace x (S [c]) (S z) = S (each c z (L x)) := by
  unfold Txt.replace
  have hj := join_each x c z x.length 0 (Nat.zero_add _)
  rw [← occ1, List.drop_zero] at hj
  split
  · rename_i h
    have hl : ((S [c]).length == 0) = false := rfl
    rw [hl, Bool.false_and, Bool.or_false] at h
    have e0 := List.isEmpty_iff.mp h
    rw [e0] at hj
    have : L (Str.join (S z) (partsFrom x 1 0 [])) = L x := by
      show L (strSub x 0 x.length) = _
      rw [sub_whole]
    rw [this] at hj
    rw [← hj]; rfl
  · rw [glued_eq_join, partsBetween_eq]
    have e1 : (S [c]).length = 1 := rfl
    rw [e1]
    have := congrArg S hj
    simpa using this
end
section
section
variable {C : Cx} {m : Map} {σ : Sto} {Q : Value → Map → Sto → Prop}
def Cx.T (C : Cx) (t : Sem Value) (Q : Value → Map → Sto → Prop) (m : Map) (σ : Sto) : Prop :=
  ∀ s, C.S s.heap m σ → 0 < s.toks → wpAny (model C.prog C.w) C.A t (PostW C.prog C.w C.h₀ C.A C.env.locals σ s fun v m' σ' => Q (er v) m' σ') (PostW C.prog C.w C.h₀ C.A C.env.locals σ s C.E) s
@[reducible] noncomputable def k_t_replace1 (Q : Value → Map → Sto → Prop) (y : List Nat) (z : List Nat) := fun v (m₁ : Map) (σ₁ : Sto) => ∃ x, v = sv x ∧ x.length ≤ 1048576 ∧ Q (sv (Txt.replace x (S y) (S z))) m₁ σ₁
theorem t_replace {o : Expr} {y z : List Nat} {k k' : Nat} {p p' apos pos : Pos} {pl : Sem Bool}
    (ho : C.V (eval o C.env) (k_t_replace1 Q y z) m σ) (hyz : (S y == S z) = false) (hz : z.length ≤ 14)
    (he : eval (.Call (.Attribute o "replace" apos) [.Constant (.str (S y)) k p, .Constant (.str (S z)) k' p'] [] pos) C.env = (do
      let ov ← eval o C.env
      PySem.standAt apos.atName
      let (f, first) ← PySem.holding [ov] (getMethod ov "replace" pl)
      callWith pos f first (backTo pos (starEach [.Constant (.str (S y)) k p, .Constant (.str (S z)) k' p'] C.env)) []) := by rfl)
    (hs : ∀ e es, starEach (.Constant e k p :: es) C.env = (false, eval (.Constant e k p) C.env) :: starEach es C.env := by intro _ _; rfl)
    (hs' : ∀ e, starEach [.Constant e k' p'] C.env = [(false, eval (.Constant e k' p') C.env)] := by intro _; rfl) :
    C.T (eval (.Call (.Attribute o "replace" apos) [.Constant (.str (S y)) k p, .Constant (.str (S z)) k' p'] [] pos) C.env) Q m σ := by
  intro s st hpos
  rw [he]
  refine wpAny_bind (wpAny_mono (wpAny_toks_of hpos (ho s st)) (fun v s₁ p => ?_) fun _ _ e => e.2)
  obtain ⟨hp1, m₁, σ₁, h₁, t₁, rfl, st₁, o₁, x, hv, hx, q⟩ := p
  obtain ⟨t, rfl⟩ := er_str hv
  refine wpAny_bind (wpAny_standAt (wpAny_bind (wpAny_holding ?_)))
  have gm := m_str (C := C) (m := m₁) (σ := σ₁) (x := x) (K := fun f first m' σ' => f = .builtin "str.replace" ∧ first = [sv x] ∧ Q (sv (Txt.replace x (S y) (S z))) m' σ') ⟨rfl, rfl, q⟩ PySem.F.slot_str_replace
  refine wpAny_mono (wpAny_toks_of (s := { s with heap := h₁, toks := t₁ }) hp1 (gm (.str x t) pl rfl _ st₁)) (fun fx s₂ p => ?_) fun _ _ e => PostW.trans o₁ e.2
  obtain ⟨hp2, m₂, σ₂, h₂, t₂, rfl, st₂, o₂, hf, hfirst, q⟩ := p
  obtain ⟨f, first⟩ := fx
  dsimp only at hf hfirst
  subst hf
  obtain ⟨v1, rfl, e1⟩ := inv1 hfirst
  obtain ⟨t', rfl⟩ := er_str e1
  dsimp only
  refine Calls.callWith_builtin (by rw [hs, hs']; rfl) ?_
  have zz : wpAny (model C.prog C.w) C.A (spliced (backTo pos (starEach [.Constant (.str (S y)) k p, .Constant (.str (S z)) k' p'] C.env))) (fun vs s' => vs = [.str (S y) t₂, .str (S z) (t₂ + 1)] ∧ s' = { s with heap := h₂, toks := t₂ + 1 + 1 }) (PostW C.prog C.w C.h₀ C.A C.env.locals σ s C.E) { s with heap := h₂, toks := t₂ } := by
    refine wpAny_items_cons (wpAny_Constant_str (wpAny_items_cons (wpAny_Constant_str (wpAny_items_nil ?_)) (hs' _))) (hs _ _)
    exact ⟨rfl, rfl⟩
  rw [hs, hs'] at zz ⊢
  refine Calls.evalArgs_plain (wpAny_mono zz (fun vs s' p => ?_) fun _ _ e => e)
  obtain ⟨rfl, rfl⟩ := p
  refine SC.replace (x := x) (t := t') (Nat.ne_of_gt hp2) (Nat.succ_ne_zero _) (Nat.ne_of_lt (Nat.lt_succ_self _)) hyz (by
    have h1 : (x.length + 1) * (S z).length ≤ (x.length + 1) * 14 := Nat.mul_le_mul_left _ (by rw [S_len]; exact hz)
    omega) fun t'' tk => ?_
  exact ⟨m₂, σ₂, h₂, tk, rfl, st₂, o₁.trans o₂, q⟩
@[reducible] noncomputable def k_v_addT1 (C : Cx) (op : Operator) (a : Str) (Q : Value → Map → Sto → Prop) := fun b (m₂ : Map) (σ₂ : Sto) => op2 C (binaryOp op) (sv a) b Q m₂ σ₂
theorem v_addT {a : Str} {k : Nat} {p pos : Pos} {op : Operator} {r : Expr} (h : C.T (eval r C.env) (k_v_addT1 C op a Q) m σ) : C.V (eval (.BinOp (.Constant (.str a) k p) op r pos) C.env) Q m σ := by
  intro s st
  rw [eval_BinOp]
  refine wpAny_bind (wpAny_Constant_str (wpAny_bind (wpAny_holding ?_)))
  have st' : C.S ({ s with toks := s.toks + 1 } : Shared).heap m σ := st
  refine wpAny_mono (h { s with toks := s.toks + 1 } st' (Nat.succ_pos _)) (fun v s₁ p => ?_) fun _ _ e => PostW.trans (t₁ := s.toks + 1) (Out.refl _ _ _) e
  obtain ⟨m₁, σ₁, h₁, t₁, rfl, st₁, o₁, q⟩ := p
  refine wpAny_bind (wpAny_standAt ?_)
  exact wpAny_mono (WE.operate (q _ v rfl rfl) { s with heap := h₁, toks := t₁ } st₁) (fun _ _ p => PostW.conv (PostW.trans o₁ p) fun _ _ q => q) fun _ _ p => PostW.trans o₁ p
end
end
section
open PySem PySem.W PyProof.Rows PySem.Builtin PySem.Builtin.Str
section
variable {C : Cx} {m : Map} {σ : Sto} {Q : Value → Map → Sto → Prop}
theorem c_split {x y : Str} {parts : List Str} (h1 : (decide (x.length < y.length) || decide (strKind x < strKind y)) = false) (hy : (y.length == 0) = false) (hf : (occurrences x y 0 x.length (x.length + 1)).isEmpty = false)
    (hp : partsBetween x (occurrences x y 0 x.length (x.length + 1)) y.length = parts) (hx : x.length ≤ 100000) (hpz : parts.length ≤ 100000)
    (h : ∀ D, σ D = none → Q (.ref D) m (σ.upd D (.list (parts.map sv)))) : vcall C (.builtin "str.split") [sv x, sv y] Q m σ := fun args' e => by
  obtain ⟨a, b, rfl, ea, eb⟩ := inv2 e
  obtain ⟨t, rfl⟩ := er_str ea
  obtain ⟨u, rfl⟩ := er_str eb
  intro s st
  have hs : sizeLine = 16777216 := sizeLine_eq
  refine call_meets F.slot_str_split (typeIs_str _ _ _) F.entry_str_split (F.args_str_split_2 _ _) (meets_str_split_sep x y t u h1 hy hf (by omega) (by rw [hp]; omega)) ?_
  rw [hp]
  show wants _ _ _ { s with toks := _, heap := s.heap.push { cls := .type "list", data := .seq (strsFrom s.toks parts).toArray } }
  obtain ⟨st', o'⟩ := st.newList (its := (strsFrom s.toks parts).toArray) (vs := parts.map sv) (by
    show (strsFrom s.toks parts).map er = parts.map sv
    rw [strsFrom_eq]
    have : ∀ l : List (Str × Tok), (strValues l).map er = (l.map (·.1)).map sv := fun l => by
      induction l with
      | nil => rfl
      | cons p r ih => show er (.str p.1 p.2) :: (strValues r).map er = _; rw [ih]; rfl
    rw [this, numbered_texts])
  exact ⟨m, _, _, _, rfl, st', o', h _ (st.fresh (Nat.le_refl _))⟩
theorem c_lindex {l : Addr} {xs : List Str} {x : Str} {j : Nat} (hl : σ l = some (.list (xs.map sv))) (hj : xs[j]? = some x) (hno : ∀ i, i < j → xs[i]? ≠ some x) (hz : xs.length ≤ 100000) (h : Q (.int j 0) m σ) : vcall C (.builtin "list.index") [.ref l, sv x] Q m σ := fun args' e => by
  obtain ⟨a, b, rfl, ea, eb⟩ := inv2 e
  rw [er_ref ea]
  obtain ⟨t, rfl⟩ := er_str eb
  refine WV.still _ h fun s Q' E' st q => ?_
  obtain ⟨its, n, hi, ev⟩ := list_at st hl
  have z := its_size ev
  rw [List.length_map] at z
  have hjl := (List.getElem?_eq_some_iff.mp hj).1
  have at_ : ∀ i (hi : i < its.size), er its[i] = sv (xs[i]'(by omega)) := fun i hi => by
    have : (its.toList.map er)[i]? = (xs.map sv)[i]? := by rw [ev]
    rw [List.getElem?_map, List.getElem?_map, Array.getElem?_toList, Array.getElem?_eq_getElem hi, List.getElem?_eq_getElem (by omega)] at this
    exact Option.some.inj this
  refine call_meets F.slot_list_index ⟨_, hi, rfl⟩ F.entry_list_index (F.args_list_index_2 _ _) (MeetsSeq.list_index l its n (.str x t) (isS x) (fun y hy => ?_) j (by omega) (by omega) ?_ (fun i hil hij => ?_)) ⟨hi, q _ _ rfl⟩
  · obtain ⟨z, u, rfl, _⟩ := its_strs ev y hy
    exact SeqRoads2.EqGives.str z x u t
  · rw [← isS_er, at_ j (by omega), isS_sv]
    have := (List.getElem?_eq_some_iff.mp hj).2
    rw [this]; simp
  · rw [← isS_er, at_ i hil, isS_sv]
    refine decide_eq_false fun q => hno i hij ?_
    rw [List.getElem?_eq_getElem (by omega), q]
def stp (a b k : Option Int) (vs : List Value) : List Value := (slicePick vs.toArray a b k).toList
theorem stp_map (its : Array Value) (a b k : Option Int) : (slicePick its a b k).toList.map er = stp a b k (its.toList.map er) := by
  unfold stp slicePick
  simp only [List.size_toArray, List.length_map, Array.length_toList, List.map_filterMap]
  congr 1
  funext i
  simp [List.getElem?_toArray]
@[reducible] noncomputable def k_v_slice31 (k : Int) (o : Value) (Q : Value → Map → Sto → Prop) (a) (b) := fun c (m₄ : Map) (σ₄ : Sto) => ∃ l vs, c = some k ∧ o = .ref l ∧ σ₄ l = some (.list vs) ∧ vs.length ≤ sizeLine ∧ ∀ D, σ₄ D = none → Q (.ref D) m₄ (σ₄.upd D (.list (stp a b (some k) vs)))
@[reducible] noncomputable def k_v_slice32 (C : Cx) (ke : Expr) (k : Int) (o) (Q : Value → Map → Sto → Prop) (a) := fun b (m₃ : Map) (σ₃ : Sto) => part C (some ke) (k_v_slice31 k o Q a b) m₃ σ₃
@[reducible] noncomputable def k_v_slice33 (C : Cx) (hi : Option Expr) (ke : Expr) (k : Int) (o) (Q : Value → Map → Sto → Prop) := fun a (m₂ : Map) (σ₂ : Sto) => part C hi (k_v_slice32 C ke k o Q a) m₂ σ₂
@[reducible] noncomputable def k_v_slice34 (C : Cx) (lo : Option Expr) (hi : Option Expr) (ke : Expr) (k : Int) (Q : Value → Map → Sto → Prop) := fun o (m₁ : Map) (σ₁ : Sto) => part C lo (k_v_slice33 C hi ke k o Q) m₁ σ₁
theorem v_slice3 {value : Expr} {lo hi : Option Expr} {ke : Expr} {p pos : Pos} {k : Int}
    (h : C.V (eval value C.env) (k_v_slice34 C lo hi ke k Q) m σ) (hk : k ≠ 0)
    (ht : ∀ o r, letTemporaryGo value o r = pure () := by intro _ _; rfl) : C.V (eval (.Subscript value (.Slice lo hi (some ke) p) pos) C.env) Q m σ := by
  intro s st
  rw [eval_Subscript]
  refine wpAny_bind (wpAny_mono (h s st) (fun o s₁ p => wpAny_bind (wpAny_holding (wpAny_Slice ?_))) fun _ _ e => e)
  obtain ⟨m₁, σ₁, h₁, t₁, rfl, st₁, o₁, q⟩ := p
  refine wpAny_mono (q _ st₁) (fun vl s₂ p => ?_) fun _ _ p => PostW.trans o₁ p
  obtain ⟨m₂, σ₂, h₂, t₂, rfl, st₂, o₂, l, rfl, q⟩ := p
  refine wpAny_mono (q _ st₂) (fun vu s₃ p => ?_) fun _ _ p => PostW.trans (o₁.trans o₂) p
  obtain ⟨m₃, σ₃, h₃, t₃, rfl, st₃, o₃, u, rfl, q⟩ := p
  refine wpAny_mono (q _ st₃) (fun vc s₄ p => ?_) fun _ _ p => PostW.trans ((o₁.trans o₂).trans o₃) p
  obtain ⟨m₄, σ₄, h₄, t₄, rfl, st₄, o₄, c, rfl, a, vs, hc, eo, ha, hz, q5⟩ := p
  refine wpAny_bind (wpAny_standAt ?_)
  generalize hH : ({ s with heap := h₄, toks := t₄ } : Shared).heap.push { cls := .type "slice", data := .fields #[partValue l, partValue u, partValue c] } = H
  have hH : h₄.push { cls := .type "slice", data := .fields #[partValue l, partValue u, partValue c] } = H := hH
  obtain ⟨st₅, o₅⟩ := st₄.pushed { cls := .type "slice", data := .fields #[partValue l, partValue u, partValue c] }
  rw [hH] at st₅ o₅
  have oo := (((o₁.trans o₂).trans o₃).trans o₄).trans o₅
  rw [er_ref eo]
  obtain ⟨ob, hob, its, n, rfl, hvs⟩ := st₅.obj a _ ha
  have hl : H.IsList a its := ⟨_, hob, rfl, n, rfl⟩
  have z : its.size = vs.length := by rw [← hvs]; simp
  refine subscript_wp (T := "list") list_getitem_lookup hl.typeIs (wpAny_operateT ?_) ht
  refine wpAny_getItem_list_slice (vl := partValue l) (vu := partValue u) (vs := partValue c) (lo := raw1 l) (hi := raw1 u) (st := raw1 c) hl ⟨{ cls := .type "slice", data := .fields #[partValue l, partValue u, partValue c] }, by rw [← hH]; exact Heap.get?_push_size _ rfl, rfl, rfl⟩ part_is part_is part_is (by rw [hc]; intro q; cases q; exact hk rfl) ?_ (by rw [z]; exact hz)
  obtain ⟨st₆, o₆⟩ := st₅.made (z := .list (stp (raw1 l) (raw1 u) (raw1 c) vs)) (fun b ob e => Heap.get?_push_of_some _ e) (Nat.le_refl _) (Heap.get?_push_size H (o := { cls := .type "list", data := .seq (slicePick its (raw1 l) (raw1 u) (raw1 c)) }) rfl) ⟨_, 0, rfl, by rw [stp_map, hvs]⟩
  rw [hc] at st₆ o₆ ⊢
  exact ⟨m₄, _, _, t₄, rfl, st₆, oo.trans o₆, q5 _ (st₅.fresh (Nat.le_refl _))⟩
end
end
section
open PySem PySem.W PyProof.Rows PySem.Builtin PySem.Builtin.Str
section
variable {C : Cx} {m : Map} {σ : Sto} {Q : Value → Map → Sto → Prop}
theorem c_sorted {l : Addr} {xs : List Str} (hl : seqAt σ l (xs.map sv)) (hz : xs.length < 64) (h : ∀ D ys, σ D = none → ys.Perm xs → sortedS ys = true → Q (.ref D) m (σ.upd D (.list (ys.map sv)))) : vcall C (.builtin "sorted") [.ref l] Q m σ := fun args' e => by
  obtain ⟨a, rfl, ea⟩ := inv1 e
  rw [er_ref ea]
  intro s st
  obtain ⟨T, hT, its, n, ho, ev⟩ := hl.obj st
  have z : its.size = xs.length := by
    have := congrArg List.length ev
    simpa using this
  refine Calls.call_function_entry kind_sorted plain_sorted entry_sorted (args_sorted1 _) ?_
  unfold Builtin.«sorted»
  refine wpAny_bind (m := checkCount "sorted" 1 1 _) (wpAny_pure ?_)
  refine wpAny_bind (wpAny_collect_seq l hT ho rfl rfl (fun h' k => ?_) (by rw [z, sizeLine_eq]; omega))
  obtain ⟨st₁, o₁⟩ := st.grown k
  refine wpAny_bind (wpAny_newList ?_ (by rw [Array.length_toList, z, sizeLine_eq]; omega))
  have hS : StrsAre its.toList xs := strsAre_of ev
  have hoL : (h'.push (seqObj "list" its.toList.toArray 0)).get? h'.objs.size = some (seqObj "list" its.toList.toArray 0) := Heap.get?_push_size _ rfl
  show wpAny _ _ _ _ _ { s with heap := h'.push (seqObj "list" its.toList.toArray 0) }
  refine wpAny_bind (wpAny_holding (wpAny_call_entry slot_list_sort ⟨_, hoL, rfl⟩ entry_list_sort (list_sort_treeK strKind_oneLt hoL hS.keysOf (fun v₁ v₂ rest e => keyKind_strs (by rw [← e]; exact hS)) (by rw [Array.length_toList, z]; exact hz) fun st' a1 a2 => ⟨_, rfl, ?_⟩) (args_list_sort _)))
  obtain ⟨ys, h1, h2, h3⟩ := sorted_out_str hS a1 a2
  obtain ⟨e1, g⟩ := sortedHeap_at (out := (arrOf st').map (·.2)) hoL
  have kk : ∀ b o, h'.get? b = some o → (sortedHeap (h'.push (seqObj "list" its.toList.toArray 0)) h'.objs.size its.toList ((arrOf st').map (·.2))).get? b = some o := fun b o e => by
    have lt := Heap.lt_size e
    rw [sortedHeap_old (Nat.ne_of_lt lt) (by rw [Heap.size_push]; exact Nat.lt_succ_of_lt lt)]
    exact Heap.get?_push_of_some _ e
  obtain ⟨st₂, o₂⟩ := st₁.made (z := .list (ys.map sv)) kk (Nat.le_refl _) g ⟨_, e1, rfl, by
    have : ∀ {vs : List Value} {zs : List Str}, StrsAre vs zs → vs.map er = zs.map sv := fun {vs zs} hh => by
      induction hh with
      | nil => rfl
      | cons y t r ih => show er (.str y t) :: _ = _; rw [ih]; rfl
    exact this h1⟩
  exact wpAny_pure ⟨_, rfl, m, _, _, s.toks, rfl, st₂, o₁.trans o₂, h _ ys (st₁.fresh (Nat.le_refl _)) h2 h3⟩
end
end
section
open PySem PySem.W PyProof.Rows PySem.SeqAt
section
variable {C : Cx} {m : Map} {σ : Sto} {Q : Value → Map → Sto → Prop}
theorem all_range {n : Nat} {e : Nat → Bool} : (List.range n).all e = true ↔ ∀ j, j < n → e j = true := by
  rw [List.all_eq_true]
  exact ⟨fun h j hj => h j (List.mem_range.mpr hj), fun h j hj => h j (List.mem_range.mp hj)⟩
theorem its_at {its : Array Value} {xs : List Str} (e : its.toList.map er = xs.map sv) (j : Nat) (h : j < its.size) (h' : j < xs.length) : ∃ t, its[j] = .str xs[j] t := by
  have : (its.toList.map er)[j]? = (xs.map sv)[j]? := by rw [e]
  rw [List.getElem?_map, List.getElem?_map, Array.getElem?_toList, Array.getElem?_eq_getElem h, List.getElem?_eq_getElem h'] at this
  exact er_str (Option.some.inj this)
theorem eq_core {its its2 : Array Value} {xs ys : List Str} (e1 : its.toList.map er = xs.map sv) (e2 : its2.toList.map er = ys.map sv) (hz : its.size = its2.size) :
    (∀ j (h1 : j < its.size) (h2 : j < its2.size), ∀ A s, EqAt A s its[j] its2[j] (decide (xs[j]? = ys[j]?))) ∧ (List.range its.size).all (fun j => decide (xs[j]? = ys[j]?)) = decide (xs = ys) := by
  have z1 : its.size = xs.length := by have := its_size e1; simpa using this
  have z2 : its2.size = ys.length := by have := its_size e2; simpa using this
  refine ⟨fun j h1 h2 A s => ?_, ?_⟩
  · obtain ⟨t, ex⟩ := its_at e1 j h1 (by omega)
    obtain ⟨u, ey⟩ := its_at e2 j h2 (by omega)
    rw [ex, ey, List.getElem?_eq_getElem (by omega), List.getElem?_eq_getElem (by omega)]
    have := (SeqRoads2.EqGives.str (xs[j]'(by omega)) (ys[j]'(by omega)) t u).at A s
    have e : decide (some (xs[j]'(by omega)) = some (ys[j]'(by omega))) = (xs[j]'(by omega) == ys[j]'(by omega)) := by
      rw [Bool.eq_iff_iff]; simp
    rw [e, ← str_beq]
    exact this
  · rw [Bool.eq_iff_iff, all_range, decide_eq_true_eq]
    constructor
    · intro h
      apply List.ext_getElem?
      intro j
      by_cases hj : j < its.size
      · exact of_decide_eq_true (h j hj)
      · rw [List.getElem?_eq_none (by omega), List.getElem?_eq_none (by omega)]
    · rintro rfl j _
      simp
theorem o_eqls {l b : Addr} {xs ys : List Str} (hu : C.A.units < cLine) (hl : σ l = some (.list (xs.map sv))) (hb : σ b = some (.list (ys.map sv))) (h : Q (.bool (decide (xs = ys))) m σ) : op2 C (compareOp .Eq) (.ref l) (.ref b) Q m σ := by
  intro a' b' ea eb
  rw [er_ref ea, er_ref eb]
  refine WV.still _ h fun s Q' E' st q => ?_
  obtain ⟨its, n, hi, ev⟩ := list_at st hl
  obtain ⟨its2, n2, hi2, ev2⟩ := list_at st hb
  by_cases hz : its.size = its2.size
  · obtain ⟨c1, c2⟩ := eq_core ev ev2 hz
    exact eq_listAt hi.isList hi2.isList hz hu (fun j h1 h2 => c1 j h1 h2 _ _) (q _ s.toks (by rw [c2]))
  · refine eq_list_lengthsAt hi.isList hi2.isList (by simpa using hz) hu (q _ s.toks ?_)
    have : xs ≠ ys := fun e => by
      have z1 := its_size ev
      have z2 := its_size ev2
      rw [e] at z1
      exact hz (z1.trans z2.symm)
    simp [this]
theorem o_nels {l b : Addr} {xs ys : List Str} (hu : C.A.units < cLine) (hl : σ l = some (.list (xs.map sv))) (hb : σ b = some (.list (ys.map sv))) (h : Q (.bool (!decide (xs = ys))) m σ) : op2 C (compareOp .NotEq) (.ref l) (.ref b) Q m σ := by
  intro a' b' ea eb
  rw [er_ref ea, er_ref eb]
  refine WV.still _ h fun s Q' E' st q => ?_
  obtain ⟨its, n, hi, ev⟩ := list_at st hl
  obtain ⟨its2, n2, hi2, ev2⟩ := list_at st hb
  by_cases hz : its.size = its2.size
  · obtain ⟨c1, c2⟩ := eq_core ev ev2 hz
    exact RcNeAt.lists hi.isList hi2.isList hz hu (fun j h1 h2 => c1 j h1 h2 _ _) _ _ _ _ (q _ s.toks (by rw [c2]))
  · refine RcNeAt.lists_lengths hi.isList hi2.isList (by simpa using hz) hu _ _ _ _ (q _ s.toks ?_)
    have : xs ≠ ys := fun e => by
      have z1 := its_size ev
      have z2 := its_size ev2
      rw [e] at z1
      exact hz (z1.trans z2.symm)
    simp [this]
theorem o_eqnil {l b : Addr} {vs : List Value} (hu : C.A.units < cLine) (hl : σ l = some (.list vs)) (hb : σ b = some (.list [])) (h : Q (.bool vs.isEmpty) m σ) : op2 C (compareOp .Eq) (.ref l) (.ref b) Q m σ := by
  intro a' b' ea eb
  rw [er_ref ea, er_ref eb]
  refine WV.still _ h fun s Q' E' st q => ?_
  obtain ⟨its, n, hi, ev⟩ := list_at st hl
  obtain ⟨its2, n2, hi2, ev2⟩ := list_at st hb
  have z1 := its_size ev
  have z2 := its_size ev2
  cases vs with
  | nil => exact eq_listAt (e := fun _ => true) hi.isList hi2.isList (z1.trans z2.symm) hu (fun j h1 h2 => absurd h1 (by rw [z1]; exact Nat.not_lt_zero _)) (q _ s.toks (by rw [z1]; rfl))
  | cons v r => exact eq_list_lengthsAt hi.isList hi2.isList (by rw [z1, z2]; simp) hu (q _ s.toks rfl)
end
end
section
section
variable {C : Cx} {m : Map} {σ : Sto}
theorem St.more {h h' : Heap} {σ' : Sto} (x : C.S h m σ) (k : ∀ b o, h.get? b = some o → h'.get? b = some o) (h1 : ∀ b, b < h.objs.size → σ' b = σ b) (h2 : ∀ b y, h.objs.size ≤ b → σ' b = some y → ∃ o, h'.get? b = some o ∧ IsO C.prog C.w y o) :
    C.S h' m σ' ∧ Out C.env.locals σ h σ' h' := by
  have oo : Out C.env.locals σ h σ' h' := fun b o e n _ => ⟨.of (k b o e), by rw [h1 b (Heap.lt_size e)]; exact n⟩
  refine ⟨x.next (fun b ob _ e => k b ob e) oo (let ⟨mc, p, q⟩ := x.ns; ⟨mc, p.keeps k, q⟩) (by rw [h1 _ x.lt]; exact x.off) (fun a y e => ?_) fun a e => ?_, oo⟩
  · by_cases q : a < h.objs.size
    · rw [h1 a q] at e
      obtain ⟨ob, g, i⟩ := x.obj a y e
      exact ⟨ob, k _ _ g, i⟩
    · exact h2 a y (Nat.le_of_not_lt q) e
  · by_cases q : a < h.objs.size
    · rw [h1 a q] at e
      exact x.old a e
    · exact Nat.le_trans x.big (Nat.le_of_not_lt q)
theorem St.butP {h h' : Heap} {P : Addr → Prop} (st : C.S h m σ) (hσ : ∀ b, P b → σ b = none) (hs : ∀ b o vs, P b → h.get? b = some o → o.data = .fields vs → vs.size < 6) (hf : ∀ l env L', C.A.frames = some l → env ∈ l → env.frame = some L' → ¬ P L') (hb : ∀ b, P b → C.h₀.objs.size ≤ b) (hL : ¬ P C.env.locals)
    (kk : ∀ b ob, ¬ P b → h.get? b = some ob → h'.get? b = some ob) : C.S h' m σ := by
  refine { keep := fun b ob e => kk b ob (fun q => absurd (Heap.lt_size e) (Nat.not_lt.mpr (hb b q))) (st.keep b ob e), obj := fun a x e => ?_, old := st.old, hand := ?_, fr := ?_, big := ?_, ns := ?_, off := st.off, above := st.above }
  · obtain ⟨ob, g, is⟩ := st.obj a x e
    exact ⟨ob, kk a ob (fun q => by rw [hσ a q] at e; cases e) g, is⟩
  · exact HOk.move st.hand fun a ob vs g n d z => ⟨kk a ob (fun q => by have := hs a ob vs q g d; omega) g, n⟩
  · obtain ⟨l, hl, k⟩ := st.fr
    refine ⟨l, hl, fun env he => ?_⟩
    obtain ⟨km, L', ob, es, n, hf', g, d, b, nn⟩ := k env he
    exact ⟨km, L', ob, es, n, hf', kk L' ob (hf l env L' hl he hf') g, d, b, nn⟩
  · obtain ⟨mc, hns, _⟩ := st.ns
    obtain ⟨oL, _, _, hoL, _⟩ := hns
    exact Nat.le_of_lt (Nat.lt_of_le_of_lt st.above (Heap.lt_size (kk _ _ hL hoL)))
  · obtain ⟨mc, hns, hm⟩ := st.ns
    exact ⟨mc, ns_keeps hns fun o ho => kk _ o hL ho, hm⟩
theorem St.tell {h : Heap} {T : Addr} {z : AO} {o : Obj} (hh : C.A.handled = none) (st : C.S h m σ) (n : σ T = none) (g : h.get? T = some o) (i : IsO C.prog C.w z o) (hb : C.h₀.objs.size ≤ T) (hL : C.env.locals ≠ T) (hf : ∀ l env L', C.A.frames = some l → env ∈ l → env.frame = some L' → L' ≠ T) : C.S h m (σ.upd T z) := by
  refine { keep := st.keep, obj := fun a x e => ?_, old := fun a e => ?_, hand := .inl hh, fr := ?_, big := st.big, ns := st.ns, off := by rw [Sto.upd_ne hL]; exact st.off, above := st.above }
  · by_cases q : a = T
    · subst q
      rw [Sto.upd_same] at e
      cases e
      exact ⟨o, g, i⟩
    · rw [Sto.upd_ne q] at e
      exact st.obj a x e
  · by_cases q : a = T
    · subst q; exact hb
    · rw [Sto.upd_ne q] at e
      exact st.old a e
  · obtain ⟨l, hl, k⟩ := st.fr
    refine ⟨l, hl, fun env he => ?_⟩
    obtain ⟨km, L', ob, es, nn, hf', g', d, b, n'⟩ := k env he
    exact ⟨km, L', ob, es, nn, hf', g', d, b, by rw [Sto.upd_ne (hf l env L' hl he hf')]; exact n'⟩
abbrev zipO (f : Value) (n : Addr) : Obj := { cls := .type "zip", dict := none, data := .fields #[f, .bool false, .bool false, .ref (n + 2), .ref (n + 3)], slots := #[] }
structure ZipIn (σ' : Sto) (n l1 l2 : Addr) : Prop where
  i1 : ∃ o, σ' n = some (.raw o) ∧ o.cls = .type "list_iterator" ∧ o.data = .fields #[.ref l1, .int 0 0]
  i2 : ∃ o, σ' (n + 1) = some (.raw o) ∧ o.cls = .type "list_iterator" ∧ o.data = .fields #[.ref l2, .int 0 0]
  ti : σ' (n + 2) = some (.raw { cls := .type "tuple", data := .seq #[.ref n, .ref (n + 1)] })
  to : σ' (n + 3) = some (.raw { cls := .type "tuple", data := .seq #[.none, .none] })
  z : σ' (n + 4) = some (.raw (zipO .none n))
  l1 : l1 < n
  l2 : l2 < n
theorem c_zip {l1 l2 : Addr} {vs us : List Value} {Q : Value → Map → Sto → Prop} (h1 : σ l1 = some (.list vs)) (h2 : σ l2 = some (.list us))
    (h : ∀ n σ', ZipIn σ' n l1 l2 → (∀ b x, σ b = some x → σ' b = some x) → (∀ b, n ≤ b → σ b = none) → Q (.ref (n + 4)) m σ') : vcall C (.type "zip") [.ref l1, .ref l2] Q m σ := fun args' e => by
  obtain ⟨a, b, rfl, ea, eb⟩ := inv2 e
  rw [er_ref ea, er_ref eb]
  intro s st
  obtain ⟨its, n1, hi, ev⟩ := list_at st h1
  obtain ⟨its2, n2, hi2, ev2⟩ := list_at st h2
  refine call_zip_2 hi.isList hi2.isList fun h' gz gti gto g1 g2 sz k => ?_
  obtain ⟨o1, ho1, hc1, hd1⟩ := g1
  obtain ⟨o2, ho2, hc2, hd2⟩ := g2
  generalize hn : s.heap.objs.size = n at gz gti gto ho1 ho2 sz ⊢
  let σ' : Sto := fun b => if b < n then σ b else if b = n then some (.raw o1) else if b = n + 1 then some (.raw o2) else if b = n + 2 then some (.raw { cls := .type "tuple", data := .seq #[.ref n, .ref (n + 1)] }) else if b = n + 3 then some (.raw { cls := .type "tuple", data := .seq #[.none, .none] }) else if b = n + 4 then some (.raw (zipO .none n)) else none
  have e0 : σ' n = some (.raw o1) := by show (if n < n then _ else _) = _; rw [if_neg (Nat.lt_irrefl _), if_pos rfl]
  have up : ∀ j, ¬ (n + j < n) := fun j => Nat.not_lt.mpr (Nat.le_add_right _ _)
  have nz : ∀ j, n + (j + 1) ≠ n := fun j q => by have : n + (j + 1) = n + 0 := q; have := Nat.add_left_cancel this; omega
  have nj : ∀ j k, j ≠ k → n + j ≠ n + k := fun j k q e => q (Nat.add_left_cancel e)
  have e1 : σ' (n + 1) = some (.raw o2) := by show (if n + 1 < n then _ else _) = _; rw [if_neg (up _), if_neg (nz 0), if_pos rfl]
  have e2 : σ' (n + 2) = some (.raw { cls := .type "tuple", data := .seq #[.ref n, .ref (n + 1)] }) := by show (if n + 2 < n then _ else _) = _; rw [if_neg (up _), if_neg (nz 1), if_neg (nj 2 1 (by decide)), if_pos rfl]
  have e3 : σ' (n + 3) = some (.raw { cls := .type "tuple", data := .seq #[.none, .none] }) := by show (if n + 3 < n then _ else _) = _; rw [if_neg (up _), if_neg (nz 2), if_neg (nj 3 1 (by decide)), if_neg (nj 3 2 (by decide)), if_pos rfl]
  have e4 : σ' (n + 4) = some (.raw (zipO .none n)) := by show (if n + 4 < n then _ else _) = _; rw [if_neg (up _), if_neg (nz 3), if_neg (nj 4 1 (by decide)), if_neg (nj 4 2 (by decide)), if_neg (nj 4 3 (by decide)), if_pos rfl]
  obtain ⟨st', o'⟩ := st.more (σ' := σ') k (fun b hb => by show (if b < n then _ else _) = _; rw [if_pos (by rw [← hn]; exact hb)]) (fun b y hb e => by
    rw [hn] at hb
    by_cases q0 : b = n
    · rw [q0, e0] at e; cases e; exact ⟨_, by rw [q0]; exact ho1, rfl⟩
    by_cases q1 : b = n + 1
    · rw [q1, e1] at e; cases e; exact ⟨_, by rw [q1]; exact ho2, rfl⟩
    by_cases q2 : b = n + 2
    · rw [q2, e2] at e; cases e; exact ⟨_, by rw [q2]; exact gti, rfl⟩
    by_cases q3 : b = n + 3
    · rw [q3, e3] at e; cases e; exact ⟨_, by rw [q3]; exact gto, rfl⟩
    by_cases q4 : b = n + 4
    · rw [q4, e4] at e; cases e; exact ⟨_, by rw [q4]; exact gz, rfl⟩
    have ez : σ' b = none := by
      show (if b < n then _ else _) = _
      rw [if_neg (Nat.not_lt.mpr hb), if_neg q0, if_neg q1, if_neg q2, if_neg q3, if_neg q4]
    rw [ez] at e
    cases e)
  have sub : ∀ b x, σ b = some x → σ' b = some x := fun b x e => by
    have lt : b < n := by rw [← hn]; exact st.toRep.lt e
    show (if b < n then _ else _) = _
    rw [if_pos lt]; exact e
  refine ⟨m, σ', h', s.toks, rfl, st', o', h n σ' ⟨⟨o1, e0, hc1, hd1⟩, ⟨o2, e1, hc2, hd2⟩, e2, e3, e4, ?_, ?_⟩ sub fun b hb => st.fresh (by rw [hn]; exact hb)⟩
  · rw [← hn]; exact st.toRep.lt h1
  · rw [← hn]; exact st.toRep.lt h2
end
end
section
section
variable {C : Cx} {m : Map} {σ : Sto}
@[reducible] noncomputable def k_s_forzip1 (C : Cx) (body : List Stmt) (Q : Flow → Map → Sto → Prop) (x y : Str) := fun (xv : Value) (m₁ : Map) (σ' : Sto) => ∃ n l1 l2 σ₁ vs us, ∃ Inv : Nat → Map → Sto → Prop, xv = .ref (n + 4) ∧ ZipIn σ' n l1 l2 ∧ (∀ b z, σ₁ b = some z → σ' b = some z) ∧ (∀ b, n ≤ b → σ₁ b = none) ∧ vs.length = us.length ∧ Inv 0 m₁ σ₁ ∧
      (∀ i m σ, Inv i m σ → σ l1 = some (.list vs) ∧ σ l2 = some (.list us)) ∧
      (∀ i v u m₁ σ₁, vs[i]? = some v → us[i]? = some u → Inv i m₁ σ₁ → C.bot.W (execs body C.env) (turnEnd (Inv (i + 1)) Q) (Map.set (Map.set m₁ x v) y u) σ₁) ∧
      (∀ m₁ σ₁, Inv vs.length m₁ σ₁ → Q .next m₁ σ₁)
inductive ZipSt (C : Cx) (n l1 l2 : Addr) (N : Nat) (Inv : Nat → Map → Sto → Prop) (σ : Sto) (s : Shared) (k : Nat) (s' : Shared) : Prop
  | mk (i : Nat) (m' : Map) (σ'' : Sto) (h : Heap) (tk : Nat) (a b : Value) (e : s' = { s with heap := h, toks := tk }) (hk : k = N + 1 - i) (hi : i ≤ N) (st : C.S h m' σ'') (o : Out C.env.locals σ s.heap σ'' h) (hn : ∀ b, n ≤ b → b ≤ n + 4 → σ'' b = none)
    (gz : IsZip h (n + 4) (n + 2) (n + 3) .none) (gti : IsPair h (n + 2) (.ref n) (.ref (n + 1))) (gto : IsPair h (n + 3) a b) (g1 : h.IsListIter n l1 i) (g2 : h.IsListIter (n + 1) l2 i) (inv : Inv i m' σ'') : ZipSt C n l1 l2 N Inv σ s k s'
theorem s_forzip {x y : Str} {px py tp pos : Pos} {k : Nat} {iter : Expr} {body : List Stmt} {Q : Flow → Map → Sto → Prop} (hh : C.A.handled = none)
    (h : C.V (eval iter C.env) (k_s_forzip1 C body Q x y) m σ)
    (hx : C.env.kindOf x = some .local := by rfl) (hy : C.env.kindOf y = some .local := by rfl) (hk : C.env.scope.kind = .function := by rfl) (hs : ∀ x, foldedSetIterable iter C.env x = pure x := by intro _; rfl)
    (hn2 : assignEach [.Name x px, .Name y py] C.env = [(false, assign (.Name x px) C.env), (false, assign (.Name y py) C.env)] := by rfl) :
    C.W (exec (.For (.Tuple [.Name x px, .Name y py] k tp) iter body [] pos) C.env) Q m σ := by
  intro s st
  refine wpAny_For (wpAny_mono (h s st) (fun xv s₁ p => ?_) fun _ _ e => e) hs
  obtain ⟨m₁, σ', h₁, t₁, rfl, st₁, o₁, n, l1, l2, σ₁, vs, us, Inv, hxv, hz, hsub, hnone, hlen, h0, hsrc, turn, done⟩ := p
  rw [er_ref hxv]
  have gz := st₁.raws _ _ hz.z
  refine wpAny_pyIter_zip (s := { s with heap := h₁, toks := t₁ }) gz ?_
  have st₂ : C.S h₁ m₁ σ₁ := st₁.less hsub
  let P : Addr → Prop := fun b => b = n + 4 ∨ b = n + 3 ∨ b = n ∨ b = n + 1
  obtain ⟨oi1, hi1, hc1, hd1⟩ := hz.i1
  obtain ⟨oi2, hi2, hc2, hd2⟩ := hz.i2
  have told : ∀ b, n ≤ b → b ≤ n + 4 → σ' b ≠ none := fun b h1 h2 => by
    obtain ⟨j, rfl⟩ : ∃ j, b = n + j := ⟨b - n, (Nat.add_sub_cancel' h1).symm⟩
    have : j ≤ 4 := Nat.le_of_add_le_add_left h2
    match j, this with
    | 0, _ => show σ' n ≠ none; rw [hi1]; exact fun c => nomatch c
    | 1, _ => rw [hi2]; exact fun c => nomatch c
    | 2, _ => rw [hz.ti]; exact fun c => nomatch c
    | 3, _ => rw [hz.to]; exact fun c => nomatch c
    | 4, _ => rw [hz.z]; exact fun c => nomatch c
  have Pin : ∀ b, P b → n ≤ b ∧ b ≤ n + 4 := fun b hb => by
    rcases hb with rfl | rfl | rfl | rfl
    · exact ⟨Nat.le_add_right _ _, Nat.le_refl _⟩
    · exact ⟨Nat.le_add_right _ _, Nat.add_le_add_left (by decide) _⟩
    · exact ⟨Nat.le_refl _, Nat.le_add_right _ _⟩
    · exact ⟨Nat.le_add_right _ _, Nat.add_le_add_left (by decide) _⟩
  have nb : ∀ b, n ≤ b → b ≤ n + 4 → C.h₀.objs.size ≤ b := fun b h1 h2 => st₁.old b (told b h1 h2)
  have nL : ∀ b, n ≤ b → b ≤ n + 4 → C.env.locals ≠ b := fun b h1 h2 q => told b h1 h2 (by rw [← q]; exact st₁.off)
  have nf : ∀ b, n ≤ b → b ≤ n + 4 → ∀ l env L', C.A.frames = some l → env ∈ l → env.frame = some L' → L' ≠ b := fun b h1 h2 l env L' hl he hf q => by
    obtain ⟨l', hl', k⟩ := st₁.fr
    rw [hl] at hl'
    cases hl'
    obtain ⟨_, L2, _, _, _, hf2, _, _, _, nn⟩ := k env he
    rw [hf] at hf2
    cases hf2
    exact told b h1 h2 (by rw [← q]; exact nn)
  have o₂ : Out C.env.locals σ s.heap σ₁ h₁ := o₁.trans (fun b o e q ne => ⟨.of e, by
    cases r : σ₁ b with
    | none => rfl
    | some y => have := hsub b y r; rw [q] at this; cases this⟩)
  have D := zipApart_new hz.l1 hz.l2
  refine codeAny_mono (codeAny_forLoop_any (R := fun r s' => match r with
      | .ok f => PostW C.prog C.w C.h₀ C.A C.env.locals σ s Q f s'
      | .error e => False)
    (ZipSt C n l1 l2 vs.length Inv σ s) ?_ (vs.length + 1)
    ⟨0, m₁, σ₁, h₁, t₁, _, _, rfl, rfl, Nat.zero_le _, st₂, o₂, fun b h1 _ => hnone b h1, gz, st₁.raws _ _ hz.ti, st₁.raws _ _ hz.to, ⟨_, st₁.raws _ _ hi1, hc1, hd1⟩, ⟨_, st₁.raws _ _ hi2, hc2, hd2⟩, h0⟩) fun r s' q => ?_
  · rintro k' s' ⟨i, m', σ'', h, tk, a, b, rfl, rfl, hi, st', o', hnn, gz, gti, gto, g1, g2, hInv⟩
    obtain ⟨s1, s2⟩ := hsrc _ _ _ hInv
    obtain ⟨its, n1, hl1, ev1⟩ := list_at st' s1
    obtain ⟨its2, n2, hl2, ev2⟩ := list_at st' s2
    have kk : ∀ h' : Heap, (∀ c o, c ≠ n + 4 → c ≠ n + 3 → c ≠ n → c ≠ n + 1 → h.get? c = some o → h'.get? c = some o) → C.S h' m' σ'' ∧ Out C.env.locals σ s.heap σ'' h' := fun h' hk => by
      have hk' : ∀ b ob, ¬ P b → h.get? b = some ob → h'.get? b = some ob := fun b ob np e => hk b ob (fun q => np (.inl q)) (fun q => np (.inr (.inl q))) (fun q => np (.inr (.inr (.inl q)))) (fun q => np (.inr (.inr (.inr q)))) e
      refine ⟨st'.butP (P := P) (fun b hb => hnn b (Pin b hb).1 (Pin b hb).2) (fun b o vs hb g d => ?_) (fun l env L' hl he hf hp => nf L' (Pin _ hp).1 (Pin _ hp).2 l env L' hl he hf rfl) (fun b hb => nb b (Pin b hb).1 (Pin b hb).2) (fun hp => nL _ (Pin _ hp).1 (Pin _ hp).2 rfl) hk', fun b o e n' ne => ?_⟩
      · rcases hb with rfl | rfl | rfl | rfl
        · rw [gz] at g; cases g; cases d; simp
        · rw [gto] at g; cases g; cases d
        · obtain ⟨o1, h1, _, d1⟩ := g1
          rw [h1] at g; cases g; rw [d1] at d; cases d; simp
        · obtain ⟨o1, h1, _, d1⟩ := g2
          rw [h1] at g; cases g; rw [d1] at d; cases d; simp
      · have np : ¬ P b := fun hp => told b (Pin b hp).1 (Pin b hp).2 (o₁ b o e n' ne).2
        obtain ⟨e', n2⟩ := o' b o e n' ne
        exact ⟨e'.then fun o' eo => hk' b o' np eo, n2⟩
    by_cases hlt : i < vs.length
    · obtain ⟨v, hv⟩ : ∃ v, vs[i]? = some v := ⟨_, List.getElem?_eq_getElem hlt⟩
      obtain ⟨u, hu⟩ : ∃ u, us[i]? = some u := ⟨_, List.getElem?_eq_getElem (by omega)⟩
      obtain ⟨v', hv1, hv2⟩ := arr_get ev1 hv
      obtain ⟨u', hu1, hu2⟩ := arr_get ev2 hu
      refine wpAny_pyNext_zip_item (s := { s with heap := h, toks := tk }) D gz gti gto g1 g2 hl1.isList hl2.isList hv1 hu1 fun h' a1 a2 a3 a4 a5 a6 a7 => ?_
      dsimp only at a1 a5 a6 a7 ⊢
      refine wpAny_letOwnedTupleGo_zip (s := { s with heap := h', toks := tk }) a1 fun h'' b1 b2 => ?_
      have up : ∀ c o, c ≠ n + 4 → h'.get? c = some o → h''.get? c = some o := fun c o hc e => (b2.2 c hc).trans e
      obtain ⟨st'', o''⟩ := kk h'' fun c o c1 c2 c3 c4 e => up c o c1 (a7 c o c1 c2 c3 c4 e)
      have hTz : h.objs.size ≠ n + 4 := fun q => Nat.lt_irrefl _ (Nat.lt_of_lt_of_le (Heap.lt_size gz) (Nat.le_of_eq q))
      have gT := up _ _ hTz a5
      have hTn : σ'' h.objs.size = none := st'.fresh (Nat.le_refl _)
      have stT : C.bot.S h'' m' (σ''.upd h.objs.size (.tup [v, u])) := St.tell (C := C.bot) hh st'' hTn gT ⟨#[v', u'], 0, rfl, by simp [hv2, hu2]⟩ st'.big (Nat.ne_of_lt st'.lt) (fun l env L' hl he hf q => by
        obtain ⟨l', hl', k⟩ := st'.fr
        rw [hl] at hl'
        cases hl'
        obtain ⟨_, L2, _, _, _, hf2, g, _, _, nn⟩ := k env he
        rw [hf] at hf2
        cases hf2
        exact absurd (Heap.lt_size g) (by rw [q]; exact Nat.lt_irrefl _))
      have as := asg_tup2 (C := C.bot) (e₁ := .Name x px) (e₂ := .Name y py) (k := k) (p := tp) (m := m') (Q := fun m₂ σ₂ => m₂ = Map.set (Map.set m' x v) y u ∧ σ₂ = σ''.upd h.objs.size (.tup [v, u])) hh (Sto.upd_same _ _ _)
        (asg_name (put_local (asg_name (put_local ⟨rfl, rfl⟩ hy hk)) hx hk)) hn2
      refine wpAny_mono (as (.ref h.objs.size) rfl { s with heap := h'', toks := tk } stT) (fun _ s₂ p => ?_) fun _ _ p => bot_elim (α := Unit) p
      obtain ⟨m₂, σ₂, h₂, t₂, rfl, st₂', o₂', rfl, rfl⟩ := p
      have st₂ : C.S h₂ (Map.set (Map.set m' x v) y u) σ'' := St.less (C := C) st₂' fun b z e => by
        rw [Sto.upd_ne (fun q => by rw [q, hTn] at e; cases e)]
        exact e
      have keep2 : ∀ b o, h''.get? b = some o → σ'' b = none → b ≠ C.env.locals → b ≠ h.objs.size → Kp h₂ b o := fun b o e q ne nt => (o₂' b o e (by rw [Sto.upd_ne nt]; exact q) ne).1
      refine wpAny_mono (turn i v u m' σ'' hv hu hInv { s with heap := h₂, toks := t₂ } st₂) (fun f s₃ p => ?_) fun _ _ p => bot_elim (α := Unit) p
      obtain ⟨m₃, σ₃, h₃, t₃, rfl, st₃, o₃, q⟩ := p
      have oo : Out C.env.locals σ s.heap σ₃ h₃ := fun b o e n' ne => by
        obtain ⟨⟨sl, e1, q1⟩, n1⟩ := o'' b o e n' ne
        have nt : b ≠ h.objs.size := fun q => by
          obtain ⟨⟨_, e0, _⟩, _⟩ := o' b o e n' ne
          exact Nat.lt_irrefl _ (Nat.lt_of_lt_of_le (Heap.lt_size e0) (Nat.le_of_eq q.symm))
        obtain ⟨sl2, e2, q2⟩ := keep2 b _ e1 n1 ne nt
        obtain ⟨⟨sl3, e3, q3⟩, n3⟩ := o₃ b _ e2 n1 ne
        exact ⟨⟨sl3, e3, fun c => (q3 c).trans ((q2 c).trans (q1 c))⟩, n3⟩
      have zz : ∀ b o, n ≤ b → b ≤ n + 4 → h''.get? b = some o → (∀ es k, o.data ≠ .dict es k) → h₃.get? b = some o ∧ σ₃ b = none := fun b o h1 h2 g nd => by
        have ne : b ≠ C.env.locals := Ne.symm (nL b h1 h2)
        have nt : b ≠ h.objs.size := fun q => Nat.lt_irrefl _ (Nat.lt_of_lt_of_le (Heap.lt_size gz) (by rw [← q]; exact h2))
        have e1 := (keep2 b o g (hnn b h1 h2) ne nt).exact nd
        obtain ⟨e2, e3⟩ := o₃ b o e1 (hnn b h1 h2) ne
        exact ⟨e2.exact nd, e3⟩
      have again : Inv (i + 1) m₃ σ₃ → ∃ k', k' < vs.length + 1 - i ∧ ZipSt C n l1 l2 vs.length Inv σ s k' { s with heap := h₃, toks := t₃ } := fun hJ => by
        have n4 : n ≤ n + 4 := Nat.le_add_right _ _
        have z1 := (zz (n + 4) _ n4 (Nat.le_refl _) b1 (fun es k q => nomatch q)).1
        have z2 := (zz (n + 2) _ (Nat.le_add_right _ _) (Nat.add_le_add_left (by decide) _) (up _ _ D.TIz (a7 _ _ D.TIz D.TITO D.TIi1 D.TIi2 gti)) (fun es k q => nomatch q)).1
        have z3 := (zz (n + 3) _ (Nat.le_add_right _ _) (Nat.add_le_add_left (by decide) _) (up _ _ D.TOz a2) (fun es k q => nomatch q)).1
        obtain ⟨x1, y1, c1, d1⟩ := a3
        obtain ⟨x2, y2, c2, d2⟩ := a4
        have z4 := (zz n _ (Nat.le_refl _) n4 (up _ _ D.i1z y1) (nodict d1)).1
        have z5 := (zz (n + 1) _ (Nat.le_add_right _ _) (Nat.add_le_add_left (by decide) _) (up _ _ D.i2z y2) (nodict d2)).1
        have alive : ∀ b, n ≤ b → b ≤ n + 4 → ∃ o, h''.get? b = some o ∧ ∀ es k, o.data ≠ .dict es k := fun b h1 h2 => by
          obtain ⟨j, rfl⟩ : ∃ j, b = n + j := ⟨b - n, (Nat.add_sub_cancel' h1).symm⟩
          have : j ≤ 4 := Nat.le_of_add_le_add_left h2
          match j, this with
          | 0, _ => exact ⟨_, up _ _ D.i1z y1, nodict d1⟩
          | 1, _ => exact ⟨_, up _ _ D.i2z y2, nodict d2⟩
          | 2, _ => exact ⟨_, up _ _ D.TIz (a7 _ _ D.TIz D.TITO D.TIi1 D.TIi2 gti), fun es k q => nomatch q⟩
          | 3, _ => exact ⟨_, up _ _ D.TOz a2, fun es k q => nomatch q⟩
          | 4, _ => exact ⟨_, b1, fun es k q => nomatch q⟩
        exact ⟨vs.length + 1 - (i + 1), stepLt2 hlt, i + 1, m₃, σ₃, h₃, t₃, _, _, rfl, rfl, hlt, st₃, oo, fun b h1 h2 => let ⟨o, g, nd⟩ := alive b h1 h2; (zz b o h1 h2 g nd).2, z1, z2, z3, ⟨_, z4, c1, d1⟩, ⟨_, z5, c2, d2⟩, hJ⟩
      cases f with
      | next => exact again q
      | cont => exact again q
      | brk => exact ⟨m₃, σ₃, h₃, t₃, rfl, st₃, oo, q⟩
      | ret r => exact ⟨m₃, σ₃, h₃, t₃, rfl, st₃, oo, q⟩
    · have hin : i = vs.length := by omega
      subst hin
      refine wpAny_pyNext_zip_end (s := { s with heap := h, toks := tk }) hh D gz gti gto g1 g2 hl1.isList hl2.isList (.inl (arr_none ev1)) fun h' hk => wpAny_execs_nil ?_
      obtain ⟨st'', o''⟩ := kk h' hk
      exact ⟨m', σ'', h', tk, rfl, st'', o'', done _ _ hInv⟩
  · cases r with
    | ok f => exact q
    | error e => exact q.elim
end
end
section
section
variable {prog : Program} {w : World} {h₀ : Heap} {A : Around}
theorem iters_str (hh : A.handled = none) {x : Str} (ha : x.cps.all (· < 128) = true) : Iters prog w h₀ A (sv x) ((L x).map fun c => sv (S [c])) (fun _ => True) := by
  intro s σ xv' Q E he hs rep k
  obtain ⟨t, rfl⟩ := er_str he
  refine wpAny_pyIter_ascii ha (k (fun i h => h.IsStrIter s.heap.objs.size "str_ascii_iterator" x t i) _ ?_ ⟨_, Heap.get?_push_size _ rfl, rfl, rfl⟩ fun b o e => Heap.get?_push_of_some _ e)
  have cp : ∀ {i : Nat}, x.cps[i]? = (L x)[i]? := fun {i} => by unfold L; rw [Array.getElem?_toList]
  refine { item := ?_, done := ?_, keep := ?_, self := ?_, live := ?_ }
  · intro i v s' σ' Q' E' hv hs' rep' hG q
    rw [List.getElem?_map, Option.map_eq_some_iff] at hv
    obtain ⟨c, hc, rfl⟩ := hv
    exact wpAny_pyNext_ascii_item hG (by rw [cp]; exact hc) fun h' a b => q _ h' _ rfl a b
  · intro s' σ' Q' E' hs' rep' hG q
    exact wpAny_pyNext_ascii_end hh hG (by rw [cp, List.length_map]; exact List.getElem?_eq_none (Nat.le_refl _)) q
  · rintro i h h' ⟨o', ho', r⟩ kk
    exact ⟨o', kk _ ho', r⟩
  · intro i s' Q' E' hG q
    exact wpAny_pyIter_striter_ascii hG q
  · rintro i h ⟨o', ho', _, hd'⟩
    exact ⟨o', ho', _, hd', by simp⟩
end
section
variable {C : Cx} {m : Map} {σ : Sto} {Q : Value → Map → Sto → Prop}
theorem o_mul12 {x : Str} {n : Int} (hn : n = 1 ∨ n = 2) (hx : x.length = 1) (h : Q (sv (S ((List.replicate n.toNat (L x)).flatten))) m σ) : op2 C (binaryOp .Mult) (sv x) (.int n 0) Q m σ := by
  intro a' b' ea eb
  obtain ⟨t, rfl⟩ := er_str ea
  obtain ⟨u, rfl⟩ := er_int eb
  refine WV.still _ h fun s Q' E' st q => ?_
  rcases hn with rfl | rfl
  · refine P.mul_str (by decide) (fun _ h => by simp at h) (fun _ h => by simp at h) ?_
    rw [if_neg (by decide), if_pos (by simp)]
    exact q _ s.toks (by simp [er, sv])
  · refine P.mul_str (by decide) (fun _ _ => by rw [hx]; decide) (fun _ _ => by rw [hx]; decide +kernel) ?_
    have e0 : ((2 : Int) == 1 || x.length == 0) = false := by rw [hx]; rfl
    rw [if_neg (by decide), e0, if_neg (by decide)]
    have e1 : (⟨(List.replicate (2 : Int).toNat x.cps).foldl (· ++ ·) #[]⟩ : Str) = S ((List.replicate (2 : Int).toNat (L x)).flatten) := by
      show (⟨(#[] ++ x.cps) ++ x.cps⟩ : Str) = S (L x ++ (L x ++ []))
      have : ((#[] ++ x.cps) ++ x.cps) = (L x ++ (L x ++ [])).toArray := by
        apply Array.toList_inj.mp
        simp [L]
      rw [this]; rfl
    rw [e1]
    refine ⟨?_, q _ _ rfl⟩
    rw [S_len]
    show (L x ++ (L x ++ [])).length ≤ _
    rw [List.length_append, List.length_append, L_len, hx, sizeLine_eq]
    decide
@[reducible] noncomputable def k_t_cmp21 (C : Cx) (Q : Bool → Map → Sto → Prop) := fun e (m₆ : Map) (σ₆ : Sto) => test1 C e Q m₆ σ₆
@[reducible] noncomputable def k_t_cmp22 (C : Cx) (p₂ : CmpOp) (b) (Q : Bool → Map → Sto → Prop) := fun d (m₅ : Map) (σ₅ : Sto) => op2 C (compareOp p₂) b d (k_t_cmp21 C Q) m₅ σ₅
@[reducible] noncomputable def k_t_cmp23 (C : Cx) (r₂ : Expr) (p₂ : CmpOp) (b) (Q : Bool → Map → Sto → Prop) := fun (t : Bool) (m₄ : Map) (σ₄ : Sto) => if t then C.V (eval r₂ C.env) (k_t_cmp22 C p₂ b Q) m₄ σ₄ else Q false m₄ σ₄
@[reducible] noncomputable def k_t_cmp24 (C : Cx) (r₂ : Expr) (p₂ : CmpOp) (b) (Q : Bool → Map → Sto → Prop) := fun c (m₃ : Map) (σ₃ : Sto) => test1 C c (k_t_cmp23 C r₂ p₂ b Q) m₃ σ₃
@[reducible] noncomputable def k_t_cmp25 (C : Cx) (p₁ : CmpOp) (a) (r₂ : Expr) (p₂ : CmpOp) (Q : Bool → Map → Sto → Prop) := fun b (m₂ : Map) (σ₂ : Sto) => op2 C (compareOp p₁) a b (k_t_cmp24 C r₂ p₂ b Q) m₂ σ₂
@[reducible] noncomputable def k_t_cmp26 (C : Cx) (r₁ : Expr) (p₁ : CmpOp) (r₂ : Expr) (p₂ : CmpOp) (Q : Bool → Map → Sto → Prop) := fun a (m₁ : Map) (σ₁ : Sto) => C.V (eval r₁ C.env) (k_t_cmp25 C p₁ a r₂ p₂ Q) m₁ σ₁
theorem t_cmp2 {l r₁ r₂ : Expr} {p₁ p₂ : CmpOp} {pos : Pos} {whole : Sem Value} {Q : Bool → Map → Sto → Prop}
    (h : C.V (eval l C.env) (k_t_cmp26 C r₁ p₁ r₂ p₂ Q) m σ)
    (he : isTrue (.Compare l [p₁, p₂] [r₁, r₂] pos) C.env whole = (do testChain pos (← eval l C.env) [p₁, p₂] [eval r₁ C.env, eval r₂ C.env]) := by rfl) : C.W (isTrue (.Compare l [p₁, p₂] [r₁, r₂] pos) C.env whole) Q m σ := by
  rw [he]
  refine WE.bind (WE.mono1 h fun a m₁ σ₁ q => ?_)
  show C.W (do
    let rv ← holding [a] (eval r₁ C.env)
    standAt pos
    let c ← holding [a, rv] (compareOp p₁ a rv)
    release [a, rv] [c]
    if ← holding [c, rv] (truthy c) then testChain pos rv [p₂] [eval r₂ C.env] else pure false) _ _ _
  refine WE.bind (WE.holding (WE.mono1 q fun b m₂ σ₂ q => WE.bind (WE.standAt (WE.bind (WE.holding (WE.mono1 (q a b rfl rfl) fun c m₃ σ₃ q => WE.bind (fun s st => wpAny_release' ⟨_, _, s.heap, s.toks, rfl, st, Out.refl _ _ _, ?_⟩)))))))
  refine WE.bind (WE.holding (WE.mono1 (q c rfl) fun t m₄ σ₄ q => ?_))
  cases t with
  | false =>
    simp only [k_t_cmp23, Bool.false_eq_true, if_false] at q ⊢
    exact WE.pure q
  | true =>
    simp only [k_t_cmp23, if_true] at q ⊢
    show C.W (do
      let rv ← holding [b] (eval r₂ C.env)
      standAt pos
      let c ← operate [b, rv] (compareOp p₂ b rv)
      holding [c] (truthy c)) _ _ _
    refine WE.bind (WE.holding (WE.mono1 q fun d m₅ σ₅ q => WE.bind (WE.standAt (WE.bind (WE.operate (WE.mono1 (q b d rfl rfl) fun e m₆ σ₆ q => WE.holding (q e rfl)))))))
def vb (C : Cx) (pos : Pos) (op : BoolOp) (es : List Expr) (Q : Value → Map → Sto → Prop) (m : Map) (σ : Sto) : Prop := C.V (boolOp pos op (evalEach es C.env)) Q m σ
theorem vb_one {pos : Pos} {op : BoolOp} {e : Expr} (h : C.V (eval e C.env) Q m σ) (he : evalEach [e] C.env = [eval e C.env] := by rfl) : vb C pos op [e] Q m σ := by
  unfold vb
  rw [he]
  exact h
@[reducible] noncomputable def k_vb_and1 (C : Cx) (pos : Pos) (d : Expr) (es : List Expr) (Q : Value → Map → Sto → Prop) (v) := fun (b : Bool) (m₂ : Map) (σ₂ : Sto) => if b then vb C pos .And (d :: es) Q m₂ σ₂ else Q v m₂ σ₂
@[reducible] noncomputable def k_vb_and2 (C : Cx) (pos : Pos) (d : Expr) (es : List Expr) (Q : Value → Map → Sto → Prop) := fun v (m₁ : Map) (σ₁ : Sto) => test1 C v (k_vb_and1 C pos d es Q v) m₁ σ₁
theorem vb_and {pos : Pos} {e d : Expr} {es : List Expr} (h : C.V (eval e C.env) (k_vb_and2 C pos d es Q) m σ)
    (he : evalEach (e :: d :: es) C.env = eval e C.env :: eval d C.env :: evalEach es C.env := by rfl) (he2 : evalEach (d :: es) C.env = eval d C.env :: evalEach es C.env := by rfl) : vb C pos .And (e :: d :: es) Q m σ := by
  unfold vb
  rw [he]
  show C.W (do let v ← eval e C.env; standAt pos; let t ← holding [v] (truthy v); match BoolOp.And, t with | .And, false | .Or, true => pure v | _, _ => boolOp pos .And (eval d C.env :: evalEach es C.env)) _ m σ
  refine WE.bind (WE.mono1 h fun v m₁ σ₁ q => WE.bind (WE.standAt (WE.bind (WE.holding (WE.mono1 (q v rfl) fun b m₂ σ₂ q => ?_)))))
  cases b with
  | false =>
    simp only [k_vb_and1, Bool.false_eq_true, if_false] at q
    exact WE.pure q
  | true =>
    simp only [k_vb_and1, if_true] at q
    unfold vb at q
    rw [he2] at q
    exact q
theorem v_boolop {op : BoolOp} {es : List Expr} {pos : Pos} (h : vb C pos op es Q m σ) : C.V (eval (.BoolOp op es pos) C.env) Q m σ := h
end
end
section
theorem fn_plainC {prog : Program} {w : World} {h₀ : Heap} {k : Nat} {fa : Addr} {o : Obj} {fd : FuncData} {body : List Stmt} {names : List Str} {args : List Value} {Q : Value → Sto → Prop} {σ : Sto}
    (ho : h₀.get? fa = some o) (hd : o.data = .func fd) (hbody : fd.body = .stmts body) (hclo : fd.closure = []) (hlim : h₀.NoLimit) (hcd : h₀.CodeRec fd.code fd.qualname)
    (hb : ∀ vals, vals.map er = args → bindArgs fd ⟨vals, []⟩ = pure (names.zip vals))
    (hloc : ∀ N, (names.all fun n => fd.scope.names.lookup n == some NameKind.local || (fd.scope.names.lookup n == some NameKind.cell && ((cellsFrom N fd.scope.names []).lookup n).isSome)) = true)
    (hnd : ∀ N, ((cellsFrom N fd.scope.names []).map (·.1)).Nodup)
    (h : ∀ (A : Around) (L : Addr), Room A k → (∃ l, A.frames = some (callEnvC fd L fa :: l)) → σ L = none → (∀ c ∈ (callEnvC fd L fa).cells, σ c.2 = none ∧ c.2 ≠ L) → WE prog w h₀ A L botE (execs body (callEnvC fd L fa)) (fun f _ σ' => Q (er (flowVal f)) σ')
      (bindL (callEnvC fd L fa).kindOf (names.zip args) fun _ => none) (cellSto σ (bindC (callEnvC fd L fa).kindOf (names.zip args) fun _ => none) (callEnvC fd L fa).cells))
    (hco : fd.scope.isCoroutine = false := by rfl) (hgen : fd.scope.isGenerator = false := by rfl) (hk : fd.scope.kind = .function := by rfl) : Fn prog w h₀ (k + 1) (.ref fa) args Q botF σ := by
  refine fn_enter ho hd hbody hclo hlim hcd (fun eb σ₁ => eb = names.zip args ∧ σ₁ = σ) (fun A s vals hv rep => ?_) (fun eb σ₁ he N n hn => ?_) hnd (fun A L eb σ₁ room hf he hL hc => ?_) hco hgen hk
  · exact wpAny_of_eq (hb vals hv) ⟨σ, s.heap, s.toks, rfl, rep, OutC.refl _ _, by rw [zer, hv], rfl⟩
  · obtain ⟨rfl, rfl⟩ := he
    have := List.all_eq_true.mp (hloc N) n (zfst hn)
    simp only [Bool.or_eq_true, Bool.and_eq_true, beq_iff_eq] at this
    exact this
  · obtain ⟨rfl, rfl⟩ := he
    exact h A L room hf hL hc
end
section
@[reducible] def tv (n : Nat) : Value := .int (n : Int) 0
section
variable {C : Cx} {m : Map} {σ : Sto} {Q : Value → Map → Sto → Prop}
theorem dictI_at {h : Heap} {a : Addr} {kvs : List (Int × Value)} {ep : Nat} (st : C.S h m σ) (e : σ a = some (.dint kvs ep)) : ∃ xs, h.DictAt (intKind C.prog C.w) a xs ep ∧ xs.map er2 = kvs := by
  obtain ⟨o, ho, xs, ⟨es, hd⟩, e⟩ := st.obj a _ e
  exact ⟨xs, ⟨o, es, ho, hd⟩, e⟩
theorem St.dictTurnI {h h' : Heap} {a : Addr} {kvs : List (Int × Value)} {ep : Nat} {xs : List (Int × Value)} (st : C.S h m σ) (e : σ a = some (.dint kvs ep)) (hd : h'.DictOf (intKind C.prog C.w) a xs) (hs : Heap.SameBut a h h') {kvs' : List (Int × Value)} (hx : xs.map er2 = kvs') :
    ∃ ep', C.S h' m (σ.upd a (.dint kvs' ep')) ∧ Out C.env.locals σ h (σ.upd a (.dint kvs' ep')) h' := by
  obtain ⟨o, es, ep', ho, hd⟩ := hd
  exact ⟨ep', st.turned e hs ho ⟨xs, ⟨es, hd⟩, hx⟩⟩
theorem is_int {x : Int} {t : Tok} : (intKind C.prog C.w).is x (.int x t) = true := by
  show Value.isInt x (.int x t) = true
  simp [Value.isInt]
theorem set_di {d : Addr} {kvs : List (Int × Value)} {ep : Nat} {k : Int} {v : Value} {Q : Map → Sto → Prop} (hd : σ d = some (.dint kvs ep)) (hz : kvs.length ≤ sizeLine) (h : ∀ ep', Q m (σ.upd d (.dint (stored kvs k v) ep'))) : setI C (.ref d) (.int k 0) v Q m σ := by
  intro o' k' v' eo ek ev
  rw [er_ref eo]
  obtain ⟨t, rfl⟩ := er_int ek
  intro s st
  obtain ⟨xs, hx, e⟩ := dictI_at st hd
  have hl : xs.length = kvs.length := by rw [← e]; simp
  refine wpAny_setItem_pairs is_int hx.dictOf (fun h' hd' hs => ?_) (by rw [hl]; exact hz)
  obtain ⟨ep', st', o'⟩ := st.dictTurnI hd hd' hs (kvs' := stored kvs k v) (by rw [stored_map, e, ev])
  exact ⟨m, _, h', _, rfl, st', o', h ep'⟩
theorem v_dict0i {pos : Pos} (h : ∀ D, σ D = none → Q (.ref D) m (σ.upd D (.dint [] 0))) : C.V (eval (.Dict [] [] pos) C.env) Q m σ := by
  intro s st
  refine wpAny_Dict_empty ?_
  obtain ⟨st', o'⟩ := st.made (z := .dint [] 0) (fun b ob e => Heap.get?_push_of_some _ e) (Nat.le_refl _) (Heap.get?_push_size s.heap (o := { cls := .type "dict", data := .dict #[] }) rfl) ⟨[], ⟨#[], ⟨rfl, rfl, rfl⟩, rfl, by intro e he; simp at he, .nil, by simp⟩, rfl⟩
  exact ⟨m, _, _, s.toks, rfl, st', o', h _ (st.fresh (Nat.le_refl _))⟩
theorem its_ints {its : Array Value} {xs : List Int} (e : its.toList.map er = xs.map nv) : ∀ y ∈ its, ∃ x t, y = .int x t ∧ x ∈ xs := by
  intro y hy
  have hm : er y ∈ its.toList.map er := List.mem_map_of_mem (Array.mem_toList_iff.mpr hy)
  rw [e] at hm
  obtain ⟨x, hx, ex⟩ := List.mem_map.mp hm
  obtain ⟨t, rfl⟩ := er_int ex.symm
  exact ⟨x, t, rfl, hx⟩
def isI (x : Int) : Value → Bool
  | .int y _ => y == x
  | _ => false
theorem isI_er (x : Int) (v : Value) : isI x (er v) = isI x v := by cases v <;> rfl
theorem any_isI {its : Array Value} {xs : List Int} (e : its.toList.map er = xs.map nv) (x : Int) : its.any (isI x) = decide (x ∈ xs) := by
  rw [← Array.any_toList]
  have : its.toList.any (isI x) = (its.toList.map er).any (isI x) := by
    rw [List.any_map]
    congr 1
    funext v
    exact (isI_er x v).symm
  rw [this, e, List.any_map, Bool.eq_iff_iff]
  simp only [List.any_eq_true, Function.comp, isI, decide_eq_true_eq, beq_iff_eq]
  constructor
  · rintro ⟨y, hy, rfl⟩; exact hy
  · intro hx; exact ⟨x, hx, rfl⟩
theorem o_notinli {l : Addr} {xs : List Int} {x : Int} (hl : σ l = some (.list (xs.map nv))) (h : Q (.bool (!decide (x ∈ xs))) m σ) : op2 C (compareOp .NotIn) (.int x 0) (.ref l) Q m σ := by
  intro a' b' ea eb
  obtain ⟨t, rfl⟩ := er_int ea
  rw [er_ref eb]
  refine WV.still _ h fun s Q' E' st q => ?_
  obtain ⟨its, n, hi, ev⟩ := list_at st hl
  refine SeqRoads2.notIn_list (isI x) (fun y hy => ?_) hi (q _ s.toks ?_)
  · obtain ⟨z, u, rfl, _⟩ := its_ints ev y hy
    exact MeetsSeq.EqGives.int z x u t
  · rw [any_isI ev]
theorem bitAnd_nat (a b : Nat) : Builtin.bitAnd (a : Int) (b : Int) = ((a &&& b : Nat) : Int) := by
  simp [Builtin.bitAnd]
theorem bitOr_nat (a b : Nat) : Builtin.bitOr (a : Int) (b : Int) = ((a ||| b : Nat) : Int) := by
  have h1 : ¬ (0 : Int) ≤ -(a : Int) - 1 := by omega
  have h2 : ¬ (0 : Int) ≤ -(b : Int) - 1 := by omega
  have e1 : (-(-(a : Int) - 1) - 1).toNat = a := by omega
  have e2 : (-(-(b : Int) - 1) - 1).toNat = b := by omega
  unfold Builtin.bitOr Builtin.bitAnd Builtin.bitNot
  split
  · rename_i q _; exact absurd (of_decide_eq_true q) h1
  · rename_i q _; exact absurd (of_decide_eq_true q) h1
  · rename_i _ q; exact absurd (of_decide_eq_true q) h2
  · rw [e1, e2]; omega
theorem o_andn {a b : Nat} (h : Q (tv (a &&& b)) m σ) : op2 C (binaryOp .BitAnd) (tv a) (tv b) Q m σ := o_and (by rw [bitAnd_nat]; exact h)
theorem o_orn {a b : Nat} (h : Q (tv (a ||| b)) m σ) : op2 C (binaryOp .BitOr) (tv a) (tv b) Q m σ := o_or (by rw [bitOr_nat]; exact h)
theorem o_ior {i j : Int} (h : Q (.int (Builtin.bitOr i j) 0) m σ) : op2 C (inplaceOp .BitOr) (.int i 0) (.int j 0) Q m σ := op2_of h fun _ _ _ _ _ q => ior_int (q _ _ rfl)
theorem o_iorn {a b : Nat} (h : Q (tv (a ||| b)) m σ) : op2 C (inplaceOp .BitOr) (tv a) (tv b) Q m σ := o_ior (by rw [bitOr_nat]; exact h)
theorem o_shln {a b : Nat} (h1 : b ≤ 100) (h2 : a < 2 ^ 64) (h : Q (tv (a * 2 ^ b)) m σ) : op2 C (binaryOp .LShift) (tv a) (tv b) Q m σ := o_shl (by omega) (by omega) (by simpa using h2) (by
  have e : (a : Int) * 2 ^ ((b : Int).toNat) = ((a * 2 ^ b : Nat) : Int) := by
    rw [Int.natCast_mul, Int.natCast_pow]; simp
  rw [e]; exact h)
theorem noPylong (i : Int) {j : Nat} (hj : j < 2 ^ 30) : Builtin.divisionGoesByPylong i (j : Int) = false := by
  unfold Builtin.divisionGoesByPylong
  by_cases h0 : (j : Int) = 0
  · simp [h0]
  · have : ((j : Int).natAbs).log2 / 30 + 1 ≤ 300 := by
      have h1 : (j : Int).natAbs = j := by simp
      rw [h1]
      have hj0 : j ≠ 0 := by omega
      have : j.log2 < 30 := (Nat.log2_lt hj0).mpr hj
      omega
    simp only [beq_iff_eq, h0, if_false, Bool.and_eq_false_iff, decide_eq_false_iff_not]
    left
    omega
theorem o_divn {a b : Nat} (hb : b ≠ 0) (hb2 : b < 2 ^ 30) (h : Q (tv (a / b)) m σ) : op2 C (binaryOp .FloorDiv) (tv a) (tv b) Q m σ := o_div (by omega) (noPylong _ hb2) (by
  have e : Int.fdiv (a : Int) (b : Int) = ((a / b : Nat) : Int) := by
    rw [Int.fdiv_eq_ediv_of_nonneg _ (by omega)]; rfl
  rw [e]; exact h)
theorem o_modn {a b : Nat} (hb : b ≠ 0) (h : Q (tv (a % b)) m σ) : op2 C (binaryOp .Mod) (tv a) (tv b) Q m σ := o_mod (by omega) (by
  have e : Int.fmod (a : Int) (b : Int) = ((a % b : Nat) : Int) := by
    rw [Int.fmod_eq_emod_of_nonneg _ (by omega)]; rfl
  rw [e]; exact h)
theorem o_addn {a b : Nat} (h : Q (tv (a + b)) m σ) : op2 C (binaryOp .Add) (tv a) (tv b) Q m σ := o_add (by rw [← Int.natCast_add]; exact h)
theorem o_muln {a b : Nat} (ha : a < 2 ^ 32) (hb : b < 2 ^ 32) (h : Q (tv (a * b)) m σ) : op2 C (binaryOp .Mult) (tv a) (tv b) Q m σ := op2_of (r := tv (a * b)) h fun _ _ _ _ _ q => mul_int (hm := PySem.IntMulOk.of_left (PySem.intBits_le_64 (by omega) (by omega))) (q _ _ (by
  show Value.int _ 0 = Value.int ((a * b : Nat) : Int) 0
  rw [Int.natCast_mul]))
end
section
variable {prog : Program} {w : World} {h₀ : Heap} {A : Around}
theorem kvi_get {xs : List (Int × Value)} {kvs : List (Int × Value)} (e : xs.map er2 = kvs) {i : Nat} {p : Int × Value} (h : kvs[i]? = some p) : ∃ v', xs[i]? = some (p.1, v') ∧ er v' = p.2 := by
  rw [← e, List.getElem?_map, Option.map_eq_some_iff] at h
  obtain ⟨q, h1, rfl⟩ := h
  exact ⟨q.2, h1, rfl⟩
theorem kvi_len {xs : List (Int × Value)} {kvs : List (Int × Value)} (e : xs.map er2 = kvs) : xs.length = kvs.length := by rw [← e]; simp
theorem iters_dicti (hp : Past h₀) {d : Addr} {kvs : List (Int × Value)} {ep : Nat} : Iters prog w h₀ A (.ref d) (kvs.map fun p => nv p.1) (fun σ => σ d = some (.dint kvs ep)) := by
  intro s σ xv' Q E he hs rep k
  rw [er_ref he]
  have hne : (d == sysModules) = false := by
    rw [beq_eq_false_iff_ne]
    intro q
    have h1 := rep.old d (by rw [hs]; intro c; cases c)
    unfold Past at hp
    rw [← q] at hp
    exact absurd hp (Nat.not_lt.mpr h1)
  have at_ : ∀ {h : Heap} {σ : Sto}, Rep prog w h₀ A h σ → σ d = some (.dint kvs ep) → ∃ xs, h.DictAt (intKind prog w) d xs ep ∧ xs.map er2 = kvs := fun {h σ} r e => by
    obtain ⟨o, ho, xs, ⟨es, hd⟩, e⟩ := r.obj d _ e
    exact ⟨xs, ⟨o, es, ho, hd⟩, e⟩
  obtain ⟨xs, hx, ev⟩ := at_ rep hs
  refine wpAny_pyIter_dict hne hx ?_
  rw [kvi_len ev]
  refine k (fun i h => h.IsKeyIter s.heap.objs.size d i kvs.length ep) _ ?_ ⟨_, Heap.get?_push_size _ rfl, rfl, rfl⟩ fun b o e => Heap.get?_push_of_some _ e
  refine { item := ?_, done := ?_, keep := ?_, self := ?_, live := ?_ }
  · intro i v s' σ' Q' E' hv hs' rep' hG q
    obtain ⟨xs', hx', ev'⟩ := at_ rep' hs'
    rw [List.getElem?_map, Option.map_eq_some_iff] at hv
    obtain ⟨p, hp1, rfl⟩ := hv
    obtain ⟨v', h1, h2⟩ := kvi_get ev' hp1
    rw [← kvi_len ev'] at hG
    refine wpAny_pyNext_dict_item hG hx' h1 fun key h' hk hI hS => ?_
    obtain ⟨t, rfl⟩ := Value.isInt_shape hk
    rw [kvi_len ev'] at hI
    exact q _ h' s'.toks rfl hI hS
  · intro s' σ' Q' E' hs' rep' hG q
    obtain ⟨xs', hx', ev'⟩ := at_ rep' hs'
    rw [List.length_map, ← kvi_len ev'] at hG
    exact dict_end rep'.hand.hh hG hx' (by simp) q
  · rintro i h h' ⟨o', ho', r⟩ kk
    exact ⟨o', kk _ ho', r⟩
  · intro i s' Q' E' hG q
    exact wpAny_pyIter_keyiter hG q
  · rintro i h ⟨o', ho', _, hd'⟩
    exact ⟨o', ho', _, hd', by simp⟩
end
end
section
section
variable {C : Cx} {m : Map} {σ : Sto} {Q : Value → Map → Sto → Prop}
theorem c_extendt {l b : Addr} {vs us : List Value} (hl : σ l = some (.list vs)) (hb : σ b = some (.tup us)) (hz : vs.length + us.length ≤ 65536) (h : Q .none m (σ.upd l (.list (vs ++ us)))) : vcall C (.builtin "list.extend") [.ref l, .ref b] Q m σ := fun args' e => by
  obtain ⟨a, b', rfl, ea, eb⟩ := inv2 e
  rw [er_ref ea, er_ref eb]
  intro s st
  obtain ⟨its, n, hi, ev⟩ := list_at st hl
  obtain ⟨its2, n2, hi2, ev2⟩ := tup_at st hb
  have z := its_size ev
  have z2 := its_size ev2
  have hs : sizeLine = 16777216 := sizeLine_eq
  refine call_meets F.slot_list_extend ⟨_, hi, rfl⟩ F.entry_list_extend (F.args_list_extend_2 _ _) (AutoSeq1.list_extend_list_tuple_0 l its n b its2 n2 ?_ (by omega) (by omega)) ⟨hi, hi2, ?_⟩
  · unfold Builtin.List.listTooLong
    simp only [Bool.and_eq_true, not_and, Bool.not_eq_true, decide_eq_false_iff_not]
    intro _
    omega
  · obtain ⟨st', o'⟩ := st.listTurn hl hi (fun xs => xs ++ its2) (vs' := vs ++ us) (by simp [ev, ev2])
    exact ⟨m, _, _, s.toks, rfl, st', o', h⟩
end
structure Fm (k : Nat) (σB σ : Sto) (L : Addr) (vs : List (Option Value)) : Prop where
  len : vs.length = k
  base : ∀ i : Nat, i < k → σB (L + 1 + i) ≠ none
  keep : ∀ a y, σB a = some y → (∀ i : Nat, i < k → a ≠ L + 1 + i) → σ a = some y
  cl : ∀ (i : Nat) v, vs[i]? = some v → σ (L + 1 + i) = some (.cell v)
section
variable {k : Nat} {σB σ : Sto} {L : Addr} {vs : List (Option Value)}
theorem Fm.dom (h : Fm k σB σ L vs) {a : Addr} (n : σ a = none) : σB a = none := by
  cases q : σB a with
  | none => rfl
  | some y =>
    by_cases c : ∃ i, i < k ∧ a = L + 1 + i
    · obtain ⟨i, hi, rfl⟩ := c
      have hi' : i < vs.length := by rw [h.len]; exact hi
      have := h.cl i _ (List.getElem?_eq_getElem hi')
      rw [n] at this; cases this
    · have := h.keep a y q fun i hi e => c ⟨i, hi, e⟩
      rw [n] at this; cases this
theorem Fm.ne (h : Fm k σB σ L vs) {a : Addr} (n : σB a = none) : ∀ i : Nat, i < k → a ≠ L + 1 + i := fun i hi q => h.base i hi (by rw [← q]; exact n)
theorem Fm.turn (h : Fm k σB σ L vs) {a : Addr} (n : σB a = none) (x : AO) : Fm k σB (σ.upd a x) L vs := by
  refine ⟨h.len, h.base, fun b y e c => ?_, fun i v e => ?_⟩
  · rw [Sto.upd_ne (fun q => by rw [q, n] at e; cases e)]
    exact h.keep b y e c
  · have hi : i < k := by rw [← h.len]; exact (List.getElem?_eq_some_iff.mp e).1
    rw [Sto.upd_ne (Ne.symm (h.ne n i hi))]
    exact h.cl i v e
theorem Fm.fresh (h : Fm k σB σ L vs) {a : Addr} (n : σ a = none) (x : AO) : Fm k σB (σ.upd a x) L vs := h.turn (h.dom n) x
theorem Fm.put (h : Fm k σB σ L vs) {i : Nat} (hi : i < k) (v : Value) : Fm k σB (σ.upd (L + 1 + i) (.cell (some v))) L (vs.set i (some v)) := by
  refine ⟨by rw [List.length_set]; exact h.len, h.base, fun b y e c => ?_, fun j u e => ?_⟩
  · rw [Sto.upd_ne (c i hi)]
    exact h.keep b y e c
  · by_cases q : i = j
    · subst q
      rw [List.getElem?_set_self (by rw [h.len]; exact hi)] at e
      cases e
      exact Sto.upd_same _ _ _
    · rw [List.getElem?_set_ne q] at e
      rw [Sto.upd_ne (by intro z; exact q (Nat.add_left_cancel (show (L + 1 : Nat) + j = L + 1 + i from z)).symm)]
      exact h.cl j u e
theorem Fm.sup (h : Fm k σB σ L vs) {σ' : Sto} (s : ∀ a y, σ a = some y → σ' a = some y) : Fm k σB σ' L vs :=
  ⟨h.len, h.base, fun a y e c => s a y (h.keep a y e c), fun i v e => s _ _ (h.cl i v e)⟩
theorem Fm.left (h : Fm k σB σ L vs) {F : Addr → Prop} (hF : ∀ a, F a → σB a = none) {σ' : Sto} (s : ∀ a y, σ a = some y → ¬ F a → σ' a = some y) : Fm k σB σ' L vs :=
  ⟨h.len, h.base, fun a y e c => s a y (h.keep a y e c) (fun f => by rw [hF a f] at e; cases e), fun i v e => s _ _ (h.cl i v e) (fun f => h.base i (by rw [← h.len]; exact (List.getElem?_eq_some_iff.mp e).1) (hF _ f))⟩
end
end
section
section
variable {C : Cx} {m : Map} {σ : Sto} {Q : Value → Map → Sto → Prop}
@[reducible] noncomputable def k_v_methS1 (C : Cx) (pos : Pos) (es : List Expr) (Q : Value → Map → Sto → Prop) := fun (f : Value) (m₂ : Map) (σ₂ : Sto) => ∃ D, f = .ref D ∧ cw C pos (.ref D) [] es Q m₂ σ₂
@[reducible] noncomputable def k_v_methS2 (C : Cx) (name : Str) (pos : Pos) (es : List Expr) (Q : Value → Map → Sto → Prop) := fun (ov : Value) (m₁ : Map) (σ₁ : Sto) => geta C ov name (k_v_methS1 C pos es Q) m₁ σ₁
theorem v_methS {o : Expr} {name : Str} {apos pos : Pos} {es : List Expr} {Q : Value → Map → Sto → Prop}
    (h : C.V (eval o C.env) (k_v_methS2 C name pos es Q) m σ)
    (he : eval (.Call (.Attribute o name apos) es [] pos) C.env = (do
      let ov ← eval o C.env
      PySem.standAt apos.atName
      let (f, first) ← PySem.holding [ov] (do pure (← getAttr ov name true, ([] : List Value)))
      callWith pos f first (backTo pos (starEach es C.env)) []) := by rfl) : C.V (eval (.Call (.Attribute o name apos) es [] pos) C.env) Q m σ := by
  rw [he]
  refine WE.bind (WE.mono1 h fun ov _ _ q => WE.bind (WE.standAt (WE.bind (WE.holding (WE.bind (WE.mono1 (q ov rfl) fun f _ _ q => ?_))))))
  obtain ⟨D, e, q⟩ := q
  rw [er_ref e]
  exact WE.pure (q [] rfl)
theorem a_bmeth {K : Frag} (X : K.In C.h₀) {x dx cl f : Addr} {kvs : List (Str × Value)} {name : Str} (i : InstS σ x dx cl kvs) (hv : kvs.lookup name = none) (h : ∀ D, σ D = none → Q (.ref D) m (σ.upd D (.raw (methodObj (.ref f) (.ref x)))))
    (hg : plainGet K cl name = true) (hh : hasDictIn K cl = true) (hf : findIn K (.ref cl) name = some (some (.ref f))) (ht : isFn K (.ref f) = true)
    (hgf : specialIn K (.ref f) "__get__" = some (some (.builtin "function.__get__"))) (htk : takesIn K (.ref f) = some false) (hc : copiedNames.contains name = false) : geta C (.ref x) name Q m σ := by
  intro ov' e
  rw [er_ref e]
  intro s st
  obtain ⟨es, n, I, hdx, he⟩ := inst_at st i
  obtain ⟨st', o'⟩ := st.newRaw (methodObj (.ref f) (.ref x)) rfl
  exact get_bind (X.keeps st.keep) I (plainGet_of hg).1 (findObj_fn hh hf hgf htk hc (by show lookIn name (dictOf es n) = _; rw [lookIn_dict, es_get_none he hv])) (plainGet_of hg).2
    (wpAny_call (fn_get (s := { s with toks := s.toks + 1 }) (X.keeps st.keep) (beq_iff_eq.mp ht) (handed_on rfl ⟨m, _, _, _, rfl, st', o', h _ (st.fresh (Nat.le_refl _))⟩)))
theorem keeps_bm {b f : Addr} {self : Value} {o : Obj} {fd : FuncData} (hb : σ b = some (.raw (methodObj (.ref f) self))) (ho : C.h₀.get? f = some o) (hd : o.data = .func fd) : Keeps1 C (.ref b) σ := fun h m st => by
  obtain ⟨o', ho', e⟩ := st.obj b _ hb
  have e' : o' = _ := e
  subst e'
  refine ⟨.boundFrame, (fun q => nomatch q), (Looks.ld (part := none) ho').andThen ?_⟩
  refine (Looks.ld (part := none) (st.keep _ _ ho)).andThen ?_
  simp only [hd]
  exact .now
theorem call_bm {k : Nat} {b f : Addr} {self : Value} {args : List Value} {Q : Value → Map → Sto → Prop} (room : Room C.A k) (hb : σ b = some (.raw (methodObj (.ref f) self))) (hself : er self = self)
    (h : Fn C.prog C.w C.h₀ k (.ref f) (self :: args) (fun v σ' => Q v m σ') botF σ) : vcall C (.ref b) args Q m σ := by
  intro args' e s st
  obtain ⟨o', ho', e'⟩ := st.obj b _ hb
  have e' : o' = _ := e'
  subst e'
  refine wpAny_call (method_call ho' (codeAny_mono (h C.A s (self :: args') room (by rw [List.map_cons, hself, e]) st.toRep) fun r s' p => ?_))
  obtain ⟨σ', h', tk, rfl, rep, oc, q⟩ := p
  have z : C.S h' m σ' := by
    obtain ⟨mc, hn, hm⟩ := st.ns
    have hL : ∀ o, s.heap.get? C.env.locals = some o → Kp h' C.env.locals o ∧ σ' C.env.locals = none := fun o ho => oc _ _ ho st.off
    obtain ⟨oL, _, _, hoL, _⟩ := id hn
    exact { toRep := rep, ns := ⟨mc, Kp.ns hn fun o ho => (hL o ho).1, hm⟩, off := (hL _ hoL).2, above := st.above }
  match r, q with
  | .ok (.ret v), q => exact ⟨m, σ', h', tk, rfl, z, oc.out, q⟩
end
end
section
section
variable {C : Cx} {m : Map} {σ : Sto}
@[reducible] noncomputable def k_s_asgcomp1 (C : Cx) (scope : Scope) (cl : List (Str × Addr)) (x : Str) (ifs : List Expr) (elt : Expr) (Q : Flow → Map → Sto → Prop) (y : Str) := fun (xv : Value) (m₁ : Map) (σ₁ : Sto) => gathers C scope cl x ifs elt xv (fun acc σ' => ∀ D, σ' D = none → Q .next (Map.set m₁ y (.ref D)) (σ'.upd D (.list acc))) σ₁
theorem s_asgcomp {elt iter : Expr} {x y : Str} {px py : Pos} {ifs : List Expr} {scope : Scope} {cl : List (Str × Addr)} {pos spos : Pos} {Q : Flow → Map → Sto → Prop} (hclos : closureFor scope C.env = pure cl)
    (h : C.V (eval iter C.env) (k_s_asgcomp1 C scope cl x ifs elt Q y) m σ)
    (hsw : swapsWith (.ListComp elt [⟨.Name x px, iter, ifs, 0⟩] scope pos) (some (.Name y py)) spos.line C.env = pure true := by rfl)
    (hcell : ∀ y ∈ scope.names, y.2 ≠ .cell := by decide) (hkind : scope.kind = .function := by rfl) (hnames : ∀ y ∈ scope.names, y.2 = .local → scope.names.lookup y.1 = some .local := by decide) (hx : scope.names.lookup x = some .local := by rfl)
    (hs : ∀ x, foldedSetIterable iter C.env x = pure x := by intro _; rfl) (hy : C.env.kindOf y = some .local := by rfl) (hyk : C.env.scope.kind = .function := by rfl) :
    C.W (exec (.Assign [.Name y py] (.ListComp elt [⟨.Name x px, iter, ifs, 0⟩] scope pos) spos) C.env) Q m σ := by
  intro s st
  rw [exec_Assign_Name_used _ _ _ _ hsw]
  refine wpAny_bind (wpAny_standAt (wpAny_bind ?_))
  show wpAny _ C.A (do let _ ← comprehension (.ListComp elt [⟨.Name x px, iter, ifs, 0⟩] scope pos) scope C.env _ (newList []) false (eval iter C.env) (some (assign (.Name y py) C.env))) _ _ s
  refine wpAny_bind (wpAny_mono (wpAny_comprehension_free (use := some (assign (.Name y py) C.env)) (Q := fun _ s' => PostW C.prog C.w C.h₀ C.A C.env.locals σ s Q .next s') rfl hs hclos hkind hnames
    (wpAny_mono (h s st) (fun xv s₁ p => ?_) fun _ _ e => e)) (fun _ s' hq => wpAny_pure (wpAny_pure hq)) fun _ _ e => e)
  obtain ⟨m₁, σ₁, h₁, t₁, rfl, st₁, o₁, q⟩ := p
  refine comp_core (RR := fun acc cenv r s' => compPost (model C.prog C.w) C.A (PostW C.prog C.w C.h₀ C.A C.env.locals σ s C.E) (some (assign (.Name y py) C.env)) (fun _ s' => PostW C.prog C.w C.h₀ C.A C.env.locals σ s Q .next s') acc cenv.locals r s')
    (s := { s with heap := h₁, toks := t₁ }) hcell hkind hx st₁ q xv rfl ?_
  intro D Cl h' tk mc σ' ys hD hCl hDC hn rep o nC nD pl hq
  obtain ⟨st₂, o₂⟩ := comp_out (s := { s with heap := h₁, toks := t₁ }) st₁ hD hCl hDC rep o nC nD pl (h' := h') ⟨rfl, fun _ _ => rfl⟩
  show wpAny _ C.A (assign (.Name y py) C.env (.ref D)) _ _ _
  have T := tgt_name (C := C) (p := py) (v := .ref D) (v' := .ref D) (m := m₁) (σ := σ'.upd D (.list (ys.toList.map er))) (Q := fun _ m₂ σ₂ => Q .next m₂ σ₂) rfl (put_local (hq D nD) hy hyk)
  refine wpAny_mono (T { s with heap := h', toks := tk } st₂) (fun _ s₃ p => ?_) fun _ _ p => PostW.trans (o₁.trans o₂) p
  obtain ⟨m₃, σ₃, h₃, t₃, rfl, st₃, o₃, q⟩ := p
  obtain ⟨mc', hns, hm'⟩ := st₂.ns
  have hb : C.h₀.objs.size ≤ Cl := Nat.le_trans st₁.big hCl
  have hLC : C.env.locals ≠ Cl := fun q => by
    obtain ⟨mc1, n1, _⟩ := st₁.ns
    have := n1.lt
    rw [q] at this
    exact absurd this (Nat.not_lt.mpr hCl)
  have nCl : (σ'.upd D (.list (ys.toList.map er))) Cl = none := by rw [Sto.upd_ne (Ne.symm hDC)]; exact nC
  have ok : ∀ ob, h'.get? Cl = some ob → Kp h₃ Cl ob ∧ σ₃ Cl = none := fun ob e => o₃ Cl ob e nCl (Ne.symm hLC)
  have hn3 : h₃.Ns Cl mc := Kp.ns hn fun ob e => (ok ob e).1
  obtain ⟨oC, _, _, hoC, _⟩ := id hn
  have n3 : σ₃ Cl = none := (ok oC hoC).2
  refine ⟨mc, hn3, fun h'' hs'' => ?_⟩
  have st₄ : C.S h'' m₃ σ₃ := st₃.but (h₁ := h₃) n3 (fun ob vs g d => by
    obtain ⟨o4, es, ep, g4, d4, _⟩ := id hn3
    rw [g4] at g
    cases g
    rw [d4] at d
    cases d) (St.frI (s := h₁) st₁ hCl) hb hLC (fun b ob hbC e => (hs''.2 b hbC).trans e)
  refine ⟨m₃, σ₃, h'', t₃, rfl, st₄, fun b ob e n ne => ?_, q⟩
  obtain ⟨k1, k2⟩ := ((o₁.trans o₂).trans o₃) b ob e n ne
  have hbC : b ≠ Cl := fun z => by
    obtain ⟨⟨sl, g1, _⟩, _⟩ := o₁ b ob e n ne
    have := Heap.lt_size g1
    rw [z] at this
    exact absurd this (Nat.not_lt.mpr hCl)
  exact ⟨k1.then fun o' eo => (hs''.2 b hbC).trans eo, k2⟩
end
end
section
section
variable {C : Cx} {m : Map} {σ : Sto} {Q : Value → Map → Sto → Prop}
@[reducible] noncomputable def k_v_fstr31 (Q : Value → Map → Sto → Prop) (a : Str) (b : Str) := fun v (m₁ : Map) (σ₁ : Sto) => ∃ x, v = sv x ∧ x.length ≤ 1000000 ∧ Q (sv (S (L a ++ L x ++ L b))) m₁ σ₁
theorem v_fstr3 {a b : Str} {k k' : _} {value : Expr} {pos pa pf pb : Pos} (h : C.V (eval value C.env) (k_v_fstr31 Q a b) m σ) (ha : (L a).length ≤ 65536 := by decide) (hb : (L b).length ≤ 65536 := by decide) :
    C.V (eval (.JoinedStr [.Constant (.str a) k pa, .FormattedValue value (-1) none pf, .Constant (.str b) k' pb] pos) C.env) Q m σ := by
  have hs : sizeLine = 16777216 := sizeLine_eq
  refine v_fstr (fp_cons (v_str ⟨L a, rfl, by simp; omega, fp_cons (v_fval (WE.mono1 h fun v m₁ σ₁ q => ?_))⟩))
  obtain ⟨x, hv, hx, q⟩ := q
  have hx' : (L x).length = x.length := L_len x
  refine ⟨x, hv, by omega, L x, hv, by simp; omega, fp_cons (v_str ⟨L b, rfl, ?_, fp_nil ?_ ?_⟩)⟩
  · simp only [List.nil_append, List.length_append]; omega
  · simp only [List.nil_append, List.length_append]; omega
  · rw [List.nil_append]; exact q
end
end
section
section
variable {C : Cx} {m : Map} {σ : Sto} {Q : Value → Map → Sto → Prop}
@[reducible] noncomputable def k_v_slice01 (o : Value) (C : Cx) (Q : Value → Map → Sto → Prop) (a) := fun b (m₃ : Map) (σ₃ : Sto) => ∃ l its vs, o = .ref l ∧ C.h₀.IsList l its ∧ its.toList.map er = vs ∧ vs.length ≤ sizeLine ∧ ∀ D, σ₃ D = none → Q (.ref D) m₃ (σ₃.upd D (.list (cut a b vs)))
@[reducible] noncomputable def k_v_slice02 (C : Cx) (hi : Option Expr) (o) (Q : Value → Map → Sto → Prop) := fun a (m₂ : Map) (σ₂ : Sto) => part C hi (k_v_slice01 o C Q a) m₂ σ₂
@[reducible] noncomputable def k_v_slice03 (C : Cx) (lo : Option Expr) (hi : Option Expr) (Q : Value → Map → Sto → Prop) := fun o (m₁ : Map) (σ₁ : Sto) => part C lo (k_v_slice02 C hi o Q) m₁ σ₁
theorem v_slice0 {value : Expr} {lo hi : Option Expr} {p pos : Pos}
    (h : C.V (eval value C.env) (k_v_slice03 C lo hi Q) m σ)
    (ht : ∀ o r, letTemporaryGo value o r = pure () := by intro _ _; rfl) : C.V (eval (.Subscript value (.Slice lo hi none p) pos) C.env) Q m σ := by
  intro s st
  rw [eval_Subscript]
  refine wpAny_bind (wpAny_mono (h s st) (fun o s₁ p => wpAny_bind (wpAny_holding (wpAny_Slice ?_))) fun _ _ e => e)
  obtain ⟨m₁, σ₁, h₁, t₁, rfl, st₁, o₁, q⟩ := p
  refine wpAny_mono (q _ st₁) (fun vl s₂ p => ?_) fun _ _ p => PostW.trans o₁ p
  obtain ⟨m₂, σ₂, h₂, t₂, rfl, st₂, o₂, l, rfl, q⟩ := p
  refine wpAny_mono (q _ st₂) (fun vu s₃ p => ?_) fun _ _ p => PostW.trans (o₁.trans o₂) p
  obtain ⟨m₃, σ₃, h₃, t₃, rfl, st₃, o₃, u, rfl, q⟩ := p
  rw [evalPart_none]
  refine wpAny_pure (wpAny_bind (wpAny_standAt ?_))
  generalize hH : ({ s with heap := h₃, toks := t₃ } : Shared).heap.push { cls := .type "slice", data := .fields #[partValue l, partValue u, .none] } = H
  have hH : h₃.push { cls := .type "slice", data := .fields #[partValue l, partValue u, .none] } = H := hH
  obtain ⟨st₄, o₄⟩ := st₃.pushed { cls := .type "slice", data := .fields #[partValue l, partValue u, .none] }
  rw [hH] at st₄ o₄
  have oo := ((o₁.trans o₂).trans o₃).trans o₄
  obtain ⟨a, its, vs, eo, hl0, hvs, hz, q5⟩ := q
  rw [er_ref eo]
  obtain ⟨ob, hob, hcl, n, hd⟩ := hl0
  have hl : H.IsList a its := ⟨ob, st₄.keep _ _ hob, hcl, n, hd⟩
  have z : its.size = vs.length := by rw [← hvs]; simp
  refine subscript_wp (T := "list") list_getitem_lookup hl.typeIs (wpAny_operateT ?_) ht
  refine wpAny_getItem_list_slice (vl := partValue l) (vu := partValue u) (vs := .none) (lo := raw1 l) (hi := raw1 u) (st := none) hl ⟨{ cls := .type "slice", data := .fields #[partValue l, partValue u, .none] }, by rw [← hH]; exact Heap.get?_push_size _ rfl, rfl, rfl⟩ part_is part_is .none (by simp) ?_ (by rw [z]; exact hz)
  obtain ⟨st₅, o₅⟩ := st₄.made (z := .list (cut (raw1 l) (raw1 u) vs)) (fun b ob e => Heap.get?_push_of_some _ e) (Nat.le_refl _) (Heap.get?_push_size H (o := { cls := .type "list", data := .seq (slicePick its (raw1 l) (raw1 u) none) }) rfl) ⟨_, 0, rfl, by rw [slicePick_cut, cut_map, hvs]⟩
  exact ⟨m₃, _, _, t₃, rfl, st₅, oo.trans o₅, q5 _ (st₄.fresh (Nat.le_refl _))⟩
theorem ints_are {vs : List Value} {ns : List Int} : IntsAre vs ns → vs.map er = ns.map nv
  | h => by
    induction h with
    | nil => rfl
    | cons => simp_all
end
end
section
@[reducible] def notSlice : Expr → Bool
  | .Slice .. => false
  | _ => true
@[reducible] def notAttr : Expr → Bool
  | .Attribute .. => false
  | _ => true
theorem keep_and {C : Cx} {f : Value} {σ : Sto} {P : Prop} (h : Keeps1 C f σ) (k : P) : Keeps1 C f σ ∧ P := ⟨h, k⟩
theorem v_cmp_ {C : Cx} {m : Map} {σ : Sto} {Q : Value → Map → Sto → Prop} {l op r pos}  (hm : behindInMarks op r = false) (h : C.V (eval l C.env) (k_v_cmp2 C r op Q) m σ) : C.V (eval (.Compare l [op] [r] pos) C.env) Q m σ := v_cmp (hm := hm) (h := h)
theorem v_call_ {C : Cx} {m : Map} {σ : Sto} {func : Expr} {es : List Expr} {pos : Pos} {Q : Value → Map → Sto → Prop}  (hn : notAttr func = true) (he : eval (.Call func es [] pos) C.env = (do callWith pos (← eval func C.env) [] (backTo pos (starEach es C.env)) (backToKw pos (keywordEach [] C.env)))) (h : C.V (eval func C.env) (k_v_call1 C pos es Q) m σ) : C.V (eval (.Call func es [] pos) C.env) Q m σ := v_call (he := he) (h := h)
theorem v_slice_ {C : Cx} {m : Map} {σ : Sto} {Q : Value → Map → Sto → Prop} {value : Expr} {lo hi : Option Expr} {p pos : Pos}  (ht : ∀ o r, letTemporaryGo value o r = pure ()) (h : C.V (eval value C.env) (k_v_slice3 C lo hi Q) m σ) : C.V (eval (.Subscript value (.Slice lo hi none p) pos) C.env) Q m σ := v_slice (ht := ht) (h := h)
theorem v_sub_ {C : Cx} {m : Map} {σ : Sto} {Q : Value → Map → Sto → Prop} {value idx : Expr} {pos : Pos}  (hn : notSlice idx = true) (hs : ∀ o i, subscripted idx false o i = PySem.operate [o, i] (getItem o i)) (ht : ∀ o r, letTemporaryGo value o r = pure ()) (h : C.V (eval value C.env) (k_v_sub2 C idx Q) m σ) : C.V (eval (.Subscript value idx pos) C.env) Q m σ := v_sub (hs := hs) (ht := ht) (h := h)
theorem v_attr_ {C : Cx} {m : Map} {σ : Sto} {Q : Value → Map → Sto → Prop} {value : Expr} {name : Str} {pos : Pos}  (ht : ∀ o r, letTemporaryGo value o r = pure ()) (he : eval (.Attribute value name pos) C.env = (do let o ← eval value C.env; standAt pos.atName; let r ← holding [o] (getAttr o name true); letTemporaryGo value o r; pure r)) (h : C.V (eval value C.env) (k_v_attr1 C name Q) m σ) : C.V (eval (.Attribute value name pos) C.env) Q m σ := v_attr (ht := ht) (he := he) (h := h)
theorem v_attrT_ {C : Cx} {m : Map} {σ : Sto} {Q : Value → Map → Sto → Prop} {value : Expr} {name : Str} {pos : Pos}  (he : eval (.Attribute value name pos) C.env = (do let o ← eval value C.env; standAt pos.atName; let r ← holding [o] (getAttr o name true); letTemporaryGo value o r; pure r)) (h : C.V (eval value C.env) (k_v_attrT1 C name Q) m σ) : C.V (eval (.Attribute value name pos) C.env) Q m σ := v_attrT (he := he) (h := h)
theorem it_cons_ {C : Cx} {m : Map} {σ : Sto} {pos : Pos} {e : Expr} {es : List Expr} {Q : List Value → Map → Sto → Prop}  (he : starEach (e :: es) C.env = (false, eval e C.env) :: starEach es C.env) (h : C.V (eval e C.env) (k_it_cons2 C pos es Q) m σ) : items C pos (e :: es) Q m σ := it_cons (he := he) (h := h)
theorem t_cmp_ {C : Cx} {m : Map} {σ : Sto} {l op r pos whole} {Q : Bool → Map → Sto → Prop}  (hm : behindInMarks op r = false) (h : C.V (eval l C.env) (k_t_cmp3 C r op Q) m σ) : C.W (isTrue (.Compare l [op] [r] pos) C.env whole) Q m σ := t_cmp (hm := hm) (h := h)
theorem t_val_ {C : Cx} {m : Map} {σ : Sto} {e : Expr} {whole : Sem Value} {Q : Bool → Map → Sto → Prop}  (he : isTrue e C.env whole = (do let v ← whole; PySem.standAt e.pos; PySem.holding [v] (truthy v))) (h : C.V whole (k_t_val1 C Q) m σ) : C.W (isTrue e C.env whole) Q m σ := t_val (he := he) (h := h)
theorem s_assign_ {C : Cx} {m : Map} {σ : Sto} {Q : Flow → Map → Sto → Prop} {x p value pos}  (hs : swapsWith value (some (.Name x p)) pos.line C.env = pure false) (h : C.V (eval value C.env) (k_s_assign1 C x Q) m σ) : C.W (exec (.Assign [.Name x p] value pos) C.env) Q m σ := s_assign (hs := hs) (h := h)
theorem s_setattr_ {C : Cx} {m : Map} {σ : Sto} {o value : Expr} {name : Str} {p pos : Pos} {Q : Flow → Map → Sto → Prop}  (hs : swapsWith value (some (.Attribute o name p)) pos.line C.env = pure false) (h : C.V (eval value C.env) (k_s_setattr2 C o name Q) m σ) : C.W (exec (.Assign [.Attribute o name p] value pos) C.env) Q m σ := s_setattr (hs := hs) (h := h)
theorem s_two_ {C : Cx} {m : Map} {σ : Sto} {t₁ t₂ value : Expr} {pos : Pos} {Q : Flow → Map → Sto → Prop}  (he : (assignEach [t₁, t₂] C.env).map (·.2) = [assign t₁ C.env, assign t₂ C.env]) (hw : swappedStores [t₁, t₂] value C.env = pure none) (h : C.V (eval value C.env) (k_s_two2 C t₁ t₂ Q) m σ) : C.W (exec (.Assign [t₁, t₂] value pos) C.env) Q m σ := s_two (he := he) (hw := hw) (h := h)
theorem s_expr_ {C : Cx} {m : Map} {σ : Sto} {Q : Flow → Map → Sto → Prop} {e pos}  (hi : interactive C.env = false) (hs : swapsWith e none pos.line C.env = pure false) (h : C.V (eval e C.env) (fun _ => Q .next) m σ) : C.W (exec (.Expr e pos) C.env) Q m σ := s_expr (hi := hi) (hs := hs) (h := h)
end
section
namespace HH
open PySem PySem.W PySem.Calls PyProof.Rows
noncomputable def a1 (p : Program) (i : Nat) : Stmt := p.main.body.getD i default
noncomputable def a2 (p : Program) (i j : Nat) : Stmt := match a1 p i with
  | .ClassDef _ _ _ b .. => b.getD j default
  | s => s
noncomputable def fnD (s : Stmt) (n q : Str) (g : Addr) (cl : List (Str × Addr)) (df kd doc pm : Value) (an : Option Addr) (cd ct : Value) (bu : Addr) : FuncData := match s with
  | .FunctionDef _ a b _ _ _ sc .. => ⟨n, q, a, .stmts b, sc, g, cl, df, kd, doc, pm, an, cd, ct, bu⟩
  | _ => default
noncomputable def s0 : Str := Str.ofString "__name__"
noncomputable def s1 : Str := Str.ofString "builtins"
noncomputable def s2 : Str := Str.ofString "__doc__"
noncomputable def s3 : Str := Str.ofString "__package__"
noncomputable def s4 : Str := Str.ofString "__loader__"
noncomputable def s5 : Str := Str.ofString "__spec__"
noncomputable def s6 : Str := Str.ofString "__build_class__"
noncomputable def s7 : Str := Str.ofString "__import__"
noncomputable def s8 : Str := Str.ofString "abs"
noncomputable def s9 : Str := Str.ofString "all"
noncomputable def s10 : Str := Str.ofString "any"
noncomputable def s11 : Str := Str.ofString "ascii"
noncomputable def s12 : Str := Str.ofString "bin"
noncomputable def s13 : Str := Str.ofString "breakpoint"
noncomputable def s14 : Str := Str.ofString "callable"
noncomputable def s15 : Str := Str.ofString "chr"
noncomputable def s16 : Str := Str.ofString "compile"
noncomputable def s17 : Str := Str.ofString "delattr"
noncomputable def s18 : Str := Str.ofString "dir"
noncomputable def s19 : Str := Str.ofString "divmod"
noncomputable def s20 : Str := Str.ofString "eval"
noncomputable def s21 : Str := Str.ofString "exec"
noncomputable def s22 : Str := Str.ofString "format"
noncomputable def s23 : Str := Str.ofString "getattr"
noncomputable def s24 : Str := Str.ofString "globals"
noncomputable def s25 : Str := Str.ofString "hasattr"
noncomputable def s26 : Str := Str.ofString "hash"
noncomputable def s27 : Str := Str.ofString "hex"
noncomputable def s28 : Str := Str.ofString "id"
noncomputable def s29 : Str := Str.ofString "input"
noncomputable def s30 : Str := Str.ofString "isinstance"
noncomputable def s31 : Str := Str.ofString "issubclass"
noncomputable def s32 : Str := Str.ofString "iter"
noncomputable def s33 : Str := Str.ofString "aiter"
noncomputable def s34 : Str := Str.ofString "len"
noncomputable def s35 : Str := Str.ofString "locals"
noncomputable def s36 : Str := Str.ofString "max"
noncomputable def s37 : Str := Str.ofString "min"
noncomputable def s38 : Str := Str.ofString "next"
noncomputable def s39 : Str := Str.ofString "anext"
noncomputable def s40 : Str := Str.ofString "oct"
noncomputable def s41 : Str := Str.ofString "ord"
noncomputable def s42 : Str := Str.ofString "pow"
noncomputable def s43 : Str := Str.ofString "print"
noncomputable def s44 : Str := Str.ofString "repr"
noncomputable def s45 : Str := Str.ofString "round"
noncomputable def s46 : Str := Str.ofString "setattr"
noncomputable def s47 : Str := Str.ofString "sorted"
noncomputable def s48 : Str := Str.ofString "sum"
noncomputable def s49 : Str := Str.ofString "vars"
noncomputable def s50 : Str := Str.ofString "None"
noncomputable def s51 : Str := Str.ofString "Ellipsis"
noncomputable def s52 : Str := Str.ofString "NotImplemented"
noncomputable def s53 : Str := Str.ofString "False"
noncomputable def s54 : Str := Str.ofString "True"
noncomputable def s55 : Str := Str.ofString "bool"
noncomputable def s56 : Str := Str.ofString "memoryview"
noncomputable def s57 : Str := Str.ofString "bytearray"
noncomputable def s58 : Str := Str.ofString "bytes"
noncomputable def s59 : Str := Str.ofString "classmethod"
noncomputable def s60 : Str := Str.ofString "complex"
noncomputable def s61 : Str := Str.ofString "dict"
noncomputable def s62 : Str := Str.ofString "enumerate"
noncomputable def s63 : Str := Str.ofString "filter"
noncomputable def s64 : Str := Str.ofString "float"
noncomputable def s65 : Str := Str.ofString "frozenset"
noncomputable def s66 : Str := Str.ofString "property"
noncomputable def s67 : Str := Str.ofString "int"
noncomputable def s68 : Str := Str.ofString "list"
noncomputable def s69 : Str := Str.ofString "map"
noncomputable def s70 : Str := Str.ofString "object"
noncomputable def s71 : Str := Str.ofString "range"
noncomputable def s72 : Str := Str.ofString "reversed"
noncomputable def s73 : Str := Str.ofString "set"
noncomputable def s74 : Str := Str.ofString "slice"
noncomputable def s75 : Str := Str.ofString "staticmethod"
noncomputable def s76 : Str := Str.ofString "str"
noncomputable def s77 : Str := Str.ofString "super"
noncomputable def s78 : Str := Str.ofString "tuple"
noncomputable def s79 : Str := Str.ofString "type"
noncomputable def s80 : Str := Str.ofString "zip"
noncomputable def s81 : Str := Str.ofString "__debug__"
noncomputable def s82 : Str := Str.ofString "BaseException"
noncomputable def s83 : Str := Str.ofString "BaseExceptionGroup"
noncomputable def s84 : Str := Str.ofString "Exception"
noncomputable def s85 : Str := Str.ofString "GeneratorExit"
noncomputable def s86 : Str := Str.ofString "KeyboardInterrupt"
noncomputable def s87 : Str := Str.ofString "SystemExit"
noncomputable def s88 : Str := Str.ofString "ArithmeticError"
noncomputable def s89 : Str := Str.ofString "AssertionError"
noncomputable def s90 : Str := Str.ofString "AttributeError"
noncomputable def s91 : Str := Str.ofString "BufferError"
noncomputable def s92 : Str := Str.ofString "EOFError"
noncomputable def s93 : Str := Str.ofString "ImportError"
noncomputable def s94 : Str := Str.ofString "LookupError"
noncomputable def s95 : Str := Str.ofString "MemoryError"
noncomputable def s96 : Str := Str.ofString "NameError"
noncomputable def s97 : Str := Str.ofString "OSError"
noncomputable def s98 : Str := Str.ofString "ReferenceError"
noncomputable def s99 : Str := Str.ofString "RuntimeError"
noncomputable def s100 : Str := Str.ofString "StopAsyncIteration"
noncomputable def s101 : Str := Str.ofString "StopIteration"
noncomputable def s102 : Str := Str.ofString "SyntaxError"
noncomputable def s103 : Str := Str.ofString "SystemError"
noncomputable def s104 : Str := Str.ofString "TypeError"
noncomputable def s105 : Str := Str.ofString "ValueError"
noncomputable def s106 : Str := Str.ofString "Warning"
noncomputable def s107 : Str := Str.ofString "FloatingPointError"
noncomputable def s108 : Str := Str.ofString "OverflowError"
noncomputable def s109 : Str := Str.ofString "ZeroDivisionError"
noncomputable def s110 : Str := Str.ofString "BytesWarning"
noncomputable def s111 : Str := Str.ofString "DeprecationWarning"
noncomputable def s112 : Str := Str.ofString "EncodingWarning"
noncomputable def s113 : Str := Str.ofString "FutureWarning"
noncomputable def s114 : Str := Str.ofString "ImportWarning"
noncomputable def s115 : Str := Str.ofString "PendingDeprecationWarning"
noncomputable def s116 : Str := Str.ofString "ResourceWarning"
noncomputable def s117 : Str := Str.ofString "RuntimeWarning"
noncomputable def s118 : Str := Str.ofString "SyntaxWarning"
noncomputable def s119 : Str := Str.ofString "UnicodeWarning"
noncomputable def s120 : Str := Str.ofString "UserWarning"
noncomputable def s121 : Str := Str.ofString "BlockingIOError"
noncomputable def s122 : Str := Str.ofString "ChildProcessError"
noncomputable def s123 : Str := Str.ofString "ConnectionError"
noncomputable def s124 : Str := Str.ofString "FileExistsError"
noncomputable def s125 : Str := Str.ofString "FileNotFoundError"
noncomputable def s126 : Str := Str.ofString "InterruptedError"
noncomputable def s127 : Str := Str.ofString "IsADirectoryError"
noncomputable def s128 : Str := Str.ofString "NotADirectoryError"
noncomputable def s129 : Str := Str.ofString "PermissionError"
noncomputable def s130 : Str := Str.ofString "ProcessLookupError"
noncomputable def s131 : Str := Str.ofString "TimeoutError"
noncomputable def s132 : Str := Str.ofString "IndentationError"
noncomputable def s133 : Str := Str.ofString "_IncompleteInputError"
noncomputable def s134 : Str := Str.ofString "IndexError"
noncomputable def s135 : Str := Str.ofString "KeyError"
noncomputable def s136 : Str := Str.ofString "ModuleNotFoundError"
noncomputable def s137 : Str := Str.ofString "NotImplementedError"
noncomputable def s138 : Str := Str.ofString "PythonFinalizationError"
noncomputable def s139 : Str := Str.ofString "RecursionError"
noncomputable def s140 : Str := Str.ofString "UnboundLocalError"
noncomputable def s141 : Str := Str.ofString "UnicodeError"
noncomputable def s142 : Str := Str.ofString "BrokenPipeError"
noncomputable def s143 : Str := Str.ofString "ConnectionAbortedError"
noncomputable def s144 : Str := Str.ofString "ConnectionRefusedError"
noncomputable def s145 : Str := Str.ofString "ConnectionResetError"
noncomputable def s146 : Str := Str.ofString "TabError"
noncomputable def s147 : Str := Str.ofString "UnicodeDecodeError"
noncomputable def s148 : Str := Str.ofString "UnicodeEncodeError"
noncomputable def s149 : Str := Str.ofString "UnicodeTranslateError"
noncomputable def s150 : Str := Str.ofString "ExceptionGroup"
noncomputable def s151 : Str := Str.ofString "EnvironmentError"
noncomputable def s152 : Str := Str.ofString "IOError"
noncomputable def s153 : Str := Str.ofString "open"
noncomputable def s154 : Str := Str.ofString "quit"
noncomputable def s155 : Str := Str.ofString "exit"
noncomputable def s156 : Str := Str.ofString "copyright"
noncomputable def s157 : Str := Str.ofString "credits"
noncomputable def s158 : Str := Str.ofString "license"
noncomputable def s159 : Str := Str.ofString "help"
noncomputable def s160 : Str := Str.ofString "__main__"
noncomputable def s161 : Str := Str.ofString "_sre"
noncomputable def s162 : Str := Str.ofString "\x69mport.loaded._sre"
noncomputable def s163 : Str := Str.ofString "class._frozen_importlib.BuiltinImporter"
noncomputable def s164 : Str := Str.ofString "watched.\x69mport"
noncomputable def s165 : Str := Str.ofString "class._frozen_importlib.ModuleSpec"
noncomputable def s166 : Str := Str.ofString "sys.modules.booked-epoch"
noncomputable def s167 : Str := Str.ofString "\x69mport.later-laid._sre"
noncomputable def s168 : Str := Str.ofString "watched.library"
noncomputable def s169 : Str := Str.ofString "watched.library-objects"
noncomputable def s170 : Str := Str.ofString "\x0c"
noncomputable def s171 : Str := Str.ofString "watched.library-deep._sre"
noncomputable def s172 : Str := Str.ofString "\x04\x00\x00\x0b\x04\x00\x00\x0b\x04\x00\x00\x03\x04\x00\x00\x0b\x08\x04dict\x02"
noncomputable def s173 : Str := Str.ofString "__annotations__"
noncomputable def s174 : Str := Str.ofString "__builtins__"
noncomputable def s175 : Str := Str.ofString "__file__"
noncomputable def s176 : Str := Str.ofString "/claim/cut.py"
noncomputable def s177 : Str := Str.ofString "__cached__"
noncomputable def s178 : Str := Str.ofString "<module>"
noncomputable def s179 : Str := Str.ofString ""
noncomputable def s180 : Str := Str.ofString "template"
noncomputable def s181 : Str := Str.ofString "getcodesize"
noncomputable def s182 : Str := Str.ofString "ascii_iscased"
noncomputable def s183 : Str := Str.ofString "unicode_iscased"
noncomputable def s184 : Str := Str.ofString "ascii_tolower"
noncomputable def s185 : Str := Str.ofString "unicode_tolower"
noncomputable def s186 : Str := Str.ofString "MAGIC"
noncomputable def s187 : Str := Str.ofString "CODESIZE"
noncomputable def s188 : Str := Str.ofString "MAXREPEAT"
noncomputable def s189 : Str := Str.ofString "MAXGROUPS"
noncomputable def s190 : Str := Str.ofString " SRE 2.2.2 Copyright (c) 1997-2002 by Secret Labs AB "
noncomputable def s191 : Str := Str.ofString "__module__"
noncomputable def s192 : Str := Str.ofString "_frozen_importlib"
noncomputable def s193 : Str := Str.ofString "__firstlineno__"
noncomputable def s194 : Str := Str.ofString "_ORIGIN"
noncomputable def s195 : Str := Str.ofString "built-in"
noncomputable def s196 : Str := Str.ofString "find_spec"
noncomputable def s197 : Str := Str.ofString "create_module"
noncomputable def s198 : Str := Str.ofString "exec_module"
noncomputable def s199 : Str := Str.ofString "get_code"
noncomputable def s200 : Str := Str.ofString "get_source"
noncomputable def s201 : Str := Str.ofString "is_package"
noncomputable def s202 : Str := Str.ofString "load_module"
noncomputable def s203 : Str := Str.ofString "__static_attributes__"
noncomputable def s204 : Str := Str.ofString "__dict__"
noncomputable def s205 : Str := Str.ofString "__weakref__"
noncomputable def s206 : Str := Str.ofString "BuiltinImporter"
noncomputable def s207 : Str := Str.ofString "\x06½\n__module__\x06º\x11_frozen_importlib\x06¾\x0f__firstlineno__\x04»\x00ϋ\x06¿\x07__doc__\t4_frozen_importlib.BuiltinImporter.__doc__:str#opaque\x06À\x07_ORIGIN\x06¼\x08built-in\x06Á\tfind_spec\t2_frozen_importlib.BuiltinImporter.find_spec#opaque\x06Â\x0dcreate_module\t6_frozen_importlib.BuiltinImporter.create_module#opaque\x06Ã\x0bexec_module\t4_frozen_importlib.BuiltinImporter.exec_module#opaque\x06Ä\x08get_code\t1_frozen_importlib.BuiltinImporter.get_code#opaque\x06Å\nget_source\t3_frozen_importlib.BuiltinImporter.get_source#opaque\x06Æ\nis_package\t3_frozen_importlib.BuiltinImporter.is_package#opaque\x06Ç\x0bload_module\t4_frozen_importlib.BuiltinImporter.load_module#opaque\x06È\x15__static_attributes__\x04\x00\x00\x0f\x06Ê\x08__dict__\x04\x00\x00\x10\x06Ì\x0b__weakref__\x04\x00\x00\x11"
noncomputable def s208 : Str := Str.ofString "\x06ã\n__module__\x06Ù\x11_frozen_importlib\x06ä\x0f__firstlineno__\x04Ú\x00Ȳ\x06å\x07__doc__\t/_frozen_importlib.ModuleSpec.__doc__:str#opaque\x06æ\x08__init__\t,_frozen_importlib.ModuleSpec.__init__#opaque\x06ç\x08__repr__\t,_frozen_importlib.ModuleSpec.__repr__#opaque\x06è\x06__eq__\t*_frozen_importlib.ModuleSpec.__eq__#opaque\x06é\x06cached\t*_frozen_importlib.ModuleSpec.cached#opaque\x06ê\x06parent\t*_frozen_importlib.ModuleSpec.parent#opaque\x06ë\x0chas_location\t0_frozen_importlib.ModuleSpec.has_location#opaque\x06ì\x15__static_attributes__\x04\x00\x00\x17\x06î\x08__dict__\x04\x00\x00\x18\x06ð\x0b__weakref__\x04\x00\x00\x19\x06ñ\x08__hash__\x00"
noncomputable def s209 : Str := Str.ofString "name"
noncomputable def s210 : Str := Str.ofString "loader"
noncomputable def s211 : Str := Str.ofString "origin"
noncomputable def s212 : Str := Str.ofString "loader_state"
noncomputable def s213 : Str := Str.ofString "submodule_search_locations"
noncomputable def s214 : Str := Str.ofString "_uninitialized_submodules"
noncomputable def s215 : Str := Str.ofString "_set_fileattr"
noncomputable def s216 : Str := Str.ofString "_cached"
noncomputable def s217 : Str := Str.ofString "_initializing"
noncomputable def s218 : Str := Str.ofString "__init__"
noncomputable def s219 : Str := Str.ofString "__repr__"
noncomputable def s220 : Str := Str.ofString "__eq__"
noncomputable def s221 : Str := Str.ofString "cached"
noncomputable def s222 : Str := Str.ofString "parent"
noncomputable def s223 : Str := Str.ofString "has_location"
noncomputable def s224 : Str := Str.ofString "__hash__"
noncomputable def s225 : Str := Str.ofString "ModuleSpec"
noncomputable def s226 : Str := Str.ofString "re"
noncomputable def s227 : Str := Str.ofString "_wall"
noncomputable def s228 : Str := Str.ofString "_NODE_OUT"
noncomputable def s229 : Str := Str.ofString "_NODE_DONE"
noncomputable def s230 : Str := Str.ofString "_NodeInfo"
noncomputable def s231 : Str := Str.ofString "CycleError"
noncomputable def s232 : Str := Str.ofString "TopologicalSorter"
noncomputable def s233 : Str := Str.ofString "_twin_re_1"
noncomputable def s234 : Str := Str.ofString "translate"
noncomputable def s235 : Str := Str.ofString "k"
noncomputable def s236 : Str := Str.ofString "cpy313.graphlib"
noncomputable def s237 : Str := Str.ofString "__qualname__"
noncomputable def s238 : Str := Str.ofString "__slots__"
noncomputable def s239 : Str := Str.ofString "node"
noncomputable def s240 : Str := Str.ofString "npredecessors"
noncomputable def s241 : Str := Str.ofString "successors"
noncomputable def s242 : Str := Str.ofString "self"
noncomputable def s243 : Str := Str.ofString "_NodeInfo.__init__"
noncomputable def s244 : Str := Str.ofString "_get_nodeinfo"
noncomputable def s245 : Str := Str.ofString "add"
noncomputable def s246 : Str := Str.ofString "prepare"
noncomputable def s247 : Str := Str.ofString "get_ready"
noncomputable def s248 : Str := Str.ofString "is_active"
noncomputable def s249 : Str := Str.ofString "__bool__"
noncomputable def s250 : Str := Str.ofString "done"
noncomputable def s251 : Str := Str.ofString "_find_cycle"
noncomputable def s252 : Str := Str.ofString "static_order"
noncomputable def s253 : Str := Str.ofString "graph"
noncomputable def s254 : Str := Str.ofString "predecessors"
noncomputable def s255 : Str := Str.ofString "TopologicalSorter.__init__"
noncomputable def s256 : Str := Str.ofString "result"
noncomputable def s257 : Str := Str.ofString "TopologicalSorter._get_nodeinfo"
noncomputable def s258 : Str := Str.ofString "nodeinfo"
noncomputable def s259 : Str := Str.ofString "pred"
noncomputable def s260 : Str := Str.ofString "pred_info"
noncomputable def s261 : Str := Str.ofString "TopologicalSorter.add"
noncomputable def s262 : Str := Str.ofString "TopologicalSorter.prepare"
noncomputable def s263 : Str := Str.ofString "n2i"
noncomputable def s264 : Str := Str.ofString "TopologicalSorter.get_ready"
noncomputable def s265 : Str := Str.ofString "TopologicalSorter.is_active"
noncomputable def s266 : Str := Str.ofString "TopologicalSorter.__bool__"
noncomputable def s267 : Str := Str.ofString "nodes"
noncomputable def s268 : Str := Str.ofString "stat"
noncomputable def s269 : Str := Str.ofString "successor"
noncomputable def s270 : Str := Str.ofString "successor_info"
noncomputable def s271 : Str := Str.ofString "TopologicalSorter.done"
noncomputable def s272 : Str := Str.ofString "stack"
noncomputable def s273 : Str := Str.ofString "itstack"
noncomputable def s274 : Str := Str.ofString "seen"
noncomputable def s275 : Str := Str.ofString "node2stacki"
noncomputable def s276 : Str := Str.ofString "TopologicalSorter._find_cycle"
noncomputable def s277 : Str := Str.ofString "TopologicalSorter.static_order"
noncomputable def s278 : Str := Str.ofString "_nfinished"
noncomputable def s279 : Str := Str.ofString "_node2info"
noncomputable def s280 : Str := Str.ofString "_npassedout"
noncomputable def s281 : Str := Str.ofString "_ready_nodes"
noncomputable def s282 : Str := Str.ofString "([&~|])"
noncomputable def s283 : Str := Str.ofString "pat"
noncomputable def s284 : Str := Str.ofString "STAR"
noncomputable def s285 : Str := Str.ofString "parts"
noncomputable def s286 : Str := Str.ofString "cpy313.fnmatch"
noncomputable def s287 : Str := Str.ofString "_special_chars_map"
noncomputable def s288 : Str := Str.ofString "escape"
noncomputable def s289 : Str := Str.ofString "\\("
noncomputable def s290 : Str := Str.ofString "\\)"
noncomputable def s291 : Str := Str.ofString "\\["
noncomputable def s292 : Str := Str.ofString "\\]"
noncomputable def s293 : Str := Str.ofString "\\{"
noncomputable def s294 : Str := Str.ofString "\\}"
noncomputable def s295 : Str := Str.ofString "\\?"
noncomputable def s296 : Str := Str.ofString "\\*"
noncomputable def s297 : Str := Str.ofString "\\+"
noncomputable def s298 : Str := Str.ofString "\\-"
noncomputable def s299 : Str := Str.ofString "\\|"
noncomputable def s300 : Str := Str.ofString "\\^"
noncomputable def s301 : Str := Str.ofString "\\$"
noncomputable def s302 : Str := Str.ofString "\\\\"
noncomputable def s303 : Str := Str.ofString "\\."
noncomputable def s304 : Str := Str.ofString "\\&"
noncomputable def s305 : Str := Str.ofString "\\~"
noncomputable def s306 : Str := Str.ofString "\\#"
noncomputable def s307 : Str := Str.ofString "\\ "
noncomputable def s308 : Str := Str.ofString "\\\t"
noncomputable def s309 : Str := Str.ofString "\\\n"
noncomputable def s310 : Str := Str.ofString "\\\x0d"
noncomputable def s311 : Str := Str.ofString "\\\x0b"
noncomputable def s312 : Str := Str.ofString "\\\x0c"
noncomputable def s313 : Str := Str.ofString "pattern"
noncomputable def s314 : Str := Str.ofString "type.__subclasses__.Exception.0"
noncomputable def s315 : Str := Str.ofString "type.__subclasses__.Exception.n"
noncomputable def s316 : Str := Str.ofString "law_kt0071_01"
noncomputable def s317 : Str := Str.ofString "_translate"
noncomputable def s318 : Str := Str.ofString "_join_translated_parts"
noncomputable def s319 : Str := Str.ofString "Error"
noncomputable def s320 : Str := Str.ofString "error_reply"
noncomputable def s321 : Str := Str.ofString "parse257"
noncomputable def s322 : Str := Str.ofString "_law_signs"
noncomputable def s323 : Str := Str.ofString "\".|"
noncomputable def s324 : Str := Str.ofString "_law_choices"
noncomputable def s325 : Str := Str.ofString "_law_read"
noncomputable def s326 : Str := Str.ofString "_law_rule"
noncomputable def s327 : Str := Str.ofString "_law_order"
noncomputable def s328 : Str := Str.ofString "_law_least"
noncomputable def s329 : Str := Str.ofString "law"
noncomputable def s330 : Str := Str.ofString "QUESTION_MARK"
noncomputable def s331 : Str := Str.ofString "res"
noncomputable def s332 : Str := Str.ofString "i"
noncomputable def s333 : Str := Str.ofString "n"
noncomputable def s334 : Str := Str.ofString "c"
noncomputable def s335 : Str := Str.ofString "j"
noncomputable def s336 : Str := Str.ofString "stuff"
noncomputable def s337 : Str := Str.ofString "chunks"
noncomputable def s338 : Str := Str.ofString "chunk"
noncomputable def s339 : Str := Str.ofString "inp"
noncomputable def s340 : Str := Str.ofString "fixed"
noncomputable def s341 : Str := Str.ofString "cpy313.ftplib"
noncomputable def s342 : Str := Str.ofString "resp"
noncomputable def s343 : Str := Str.ofString "dirname"
noncomputable def s344 : Str := Str.ofString "reply"
noncomputable def o0 (p : Program) (P : Params) : Obj := (Obj.mk (Value.type "dict") none (Data.dict #[(DictEntry.mk (PyData.keyHash P s0) (Value.str s0 1) (Value.str s1 160)), (DictEntry.mk (PyData.keyHash P s2) (Value.str s2 2) (Value.builtin "builtins.__doc__:str#opaque")), (DictEntry.mk (PyData.keyHash P s3) (Value.str s3 3) (Value.builtin "builtins.__package__:str#opaque")), (DictEntry.mk (PyData.keyHash P s4) (Value.str s4 4) (Value.builtin "builtins.__loader__:shared#opaque")), (DictEntry.mk (PyData.keyHash P s5) (Value.str s5 5) (Value.builtin "builtins.__spec__#opaque")), (DictEntry.mk (PyData.keyHash P s6) (Value.str s6 6) (Value.builtin "__build_class__")), (DictEntry.mk (PyData.keyHash P s7) (Value.str s7 7) (Value.builtin "__import__")), (DictEntry.mk (PyData.keyHash P s8) (Value.str s8 8) (Value.builtin "abs")), (DictEntry.mk (PyData.keyHash P s9) (Value.str s9 9) (Value.builtin "all")), (DictEntry.mk (PyData.keyHash P s10) (Value.str s10 10) (Value.builtin "any")), (DictEntry.mk (PyData.keyHash P s11) (Value.str s11 11) (Value.builtin "ascii")), (DictEntry.mk (PyData.keyHash P s12) (Value.str s12 12) (Value.builtin "bin")), (DictEntry.mk (PyData.keyHash P s13) (Value.str s13 13) (Value.builtin "breakpoint")), (DictEntry.mk (PyData.keyHash P s14) (Value.str s14 14) (Value.builtin "callable")), (DictEntry.mk (PyData.keyHash P s15) (Value.str s15 15) (Value.builtin "chr")), (DictEntry.mk (PyData.keyHash P s16) (Value.str s16 16) (Value.builtin "compile")), (DictEntry.mk (PyData.keyHash P s17) (Value.str s17 17) (Value.builtin "delattr")), (DictEntry.mk (PyData.keyHash P s18) (Value.str s18 18) (Value.builtin "dir")), (DictEntry.mk (PyData.keyHash P s19) (Value.str s19 19) (Value.builtin "divmod")), (DictEntry.mk (PyData.keyHash P s20) (Value.str s20 20) (Value.builtin "eval")), (DictEntry.mk (PyData.keyHash P s21) (Value.str s21 21) (Value.builtin "exec")), (DictEntry.mk (PyData.keyHash P s22) (Value.str s22 22) (Value.builtin "format")), (DictEntry.mk (PyData.keyHash P s23) (Value.str s23 23) (Value.builtin "getattr")), (DictEntry.mk (PyData.keyHash P s24) (Value.str s24 24) (Value.builtin "globals")), (DictEntry.mk (PyData.keyHash P s25) (Value.str s25 25) (Value.builtin "hasattr")), (DictEntry.mk (PyData.keyHash P s26) (Value.str s26 26) (Value.builtin "hash")), (DictEntry.mk (PyData.keyHash P s27) (Value.str s27 27) (Value.builtin "hex")), (DictEntry.mk (PyData.keyHash P s28) (Value.str s28 28) (Value.builtin "id")), (DictEntry.mk (PyData.keyHash P s29) (Value.str s29 29) (Value.builtin "input")), (DictEntry.mk (PyData.keyHash P s30) (Value.str s30 30) (Value.builtin "isinstance")), (DictEntry.mk (PyData.keyHash P s31) (Value.str s31 31) (Value.builtin "issubclass")), (DictEntry.mk (PyData.keyHash P s32) (Value.str s32 32) (Value.builtin "iter")), (DictEntry.mk (PyData.keyHash P s33) (Value.str s33 33) (Value.builtin "aiter")), (DictEntry.mk (PyData.keyHash P s34) (Value.str s34 34) (Value.builtin "len")), (DictEntry.mk (PyData.keyHash P s35) (Value.str s35 35) (Value.builtin "locals")), (DictEntry.mk (PyData.keyHash P s36) (Value.str s36 36) (Value.builtin "max")), (DictEntry.mk (PyData.keyHash P s37) (Value.str s37 37) (Value.builtin "min")), (DictEntry.mk (PyData.keyHash P s38) (Value.str s38 38) (Value.builtin "next")), (DictEntry.mk (PyData.keyHash P s39) (Value.str s39 39) (Value.builtin "anext")), (DictEntry.mk (PyData.keyHash P s40) (Value.str s40 40) (Value.builtin "oct")), (DictEntry.mk (PyData.keyHash P s41) (Value.str s41 41) (Value.builtin "ord")), (DictEntry.mk (PyData.keyHash P s42) (Value.str s42 42) (Value.builtin "pow")), (DictEntry.mk (PyData.keyHash P s43) (Value.str s43 43) (Value.builtin "print")), (DictEntry.mk (PyData.keyHash P s44) (Value.str s44 44) (Value.builtin "repr")), (DictEntry.mk (PyData.keyHash P s45) (Value.str s45 45) (Value.builtin "round")), (DictEntry.mk (PyData.keyHash P s46) (Value.str s46 46) (Value.builtin "setattr")), (DictEntry.mk (PyData.keyHash P s47) (Value.str s47 47) (Value.builtin "sorted")), (DictEntry.mk (PyData.keyHash P s48) (Value.str s48 48) (Value.builtin "sum")), (DictEntry.mk (PyData.keyHash P s49) (Value.str s49 49) (Value.builtin "vars")), (DictEntry.mk (PyData.keyHash P s50) (Value.str s50 50) Value.none), (DictEntry.mk (PyData.keyHash P s51) (Value.str s51 51) Value.ellipsis), (DictEntry.mk (PyData.keyHash P s52) (Value.str s52 52) Value.notImplemented), (DictEntry.mk (PyData.keyHash P s53) (Value.str s53 53) (Value.bool Bool.false)), (DictEntry.mk (PyData.keyHash P s54) (Value.str s54 54) (Value.bool Bool.true)), (DictEntry.mk (PyData.keyHash P s55) (Value.str s55 55) (Value.type "bool")), (DictEntry.mk (PyData.keyHash P s56) (Value.str s56 56) (Value.type "memoryview")), (DictEntry.mk (PyData.keyHash P s57) (Value.str s57 57) (Value.type "bytearray")), (DictEntry.mk (PyData.keyHash P s58) (Value.str s58 58) (Value.type "bytes")), (DictEntry.mk (PyData.keyHash P s59) (Value.str s59 59) (Value.type "classmethod")), (DictEntry.mk (PyData.keyHash P s60) (Value.str s60 60) (Value.type "complex")), (DictEntry.mk (PyData.keyHash P s61) (Value.str s61 61) (Value.type "dict")), (DictEntry.mk (PyData.keyHash P s62) (Value.str s62 62) (Value.type "enumerate")), (DictEntry.mk (PyData.keyHash P s63) (Value.str s63 63) (Value.type "filter")), (DictEntry.mk (PyData.keyHash P s64) (Value.str s64 64) (Value.type "float")), (DictEntry.mk (PyData.keyHash P s65) (Value.str s65 65) (Value.type "frozenset")), (DictEntry.mk (PyData.keyHash P s66) (Value.str s66 66) (Value.type "property")), (DictEntry.mk (PyData.keyHash P s67) (Value.str s67 67) (Value.type "int")), (DictEntry.mk (PyData.keyHash P s68) (Value.str s68 68) (Value.type "list")), (DictEntry.mk (PyData.keyHash P s69) (Value.str s69 69) (Value.type "map")), (DictEntry.mk (PyData.keyHash P s70) (Value.str s70 70) (Value.type "object")), (DictEntry.mk (PyData.keyHash P s71) (Value.str s71 71) (Value.type "range")), (DictEntry.mk (PyData.keyHash P s72) (Value.str s72 72) (Value.type "reversed")), (DictEntry.mk (PyData.keyHash P s73) (Value.str s73 73) (Value.type "set")), (DictEntry.mk (PyData.keyHash P s74) (Value.str s74 74) (Value.type "slice")), (DictEntry.mk (PyData.keyHash P s75) (Value.str s75 75) (Value.type "staticmethod")), (DictEntry.mk (PyData.keyHash P s76) (Value.str s76 76) (Value.type "str")), (DictEntry.mk (PyData.keyHash P s77) (Value.str s77 77) (Value.type "super")), (DictEntry.mk (PyData.keyHash P s78) (Value.str s78 78) (Value.type "tuple")), (DictEntry.mk (PyData.keyHash P s79) (Value.str s79 79) (Value.type "type")), (DictEntry.mk (PyData.keyHash P s80) (Value.str s80 80) (Value.type "zip")), (DictEntry.mk (PyData.keyHash P s81) (Value.str s81 81) (Value.bool Bool.true)), (DictEntry.mk (PyData.keyHash P s82) (Value.str s82 82) (Value.type "BaseException")), (DictEntry.mk (PyData.keyHash P s83) (Value.str s83 83) (Value.type "BaseExceptionGroup")), (DictEntry.mk (PyData.keyHash P s84) (Value.str s84 84) (Value.type "Exception")), (DictEntry.mk (PyData.keyHash P s85) (Value.str s85 85) (Value.type "GeneratorExit")), (DictEntry.mk (PyData.keyHash P s86) (Value.str s86 86) (Value.type "KeyboardInterrupt")), (DictEntry.mk (PyData.keyHash P s87) (Value.str s87 87) (Value.type "SystemExit")), (DictEntry.mk (PyData.keyHash P s88) (Value.str s88 88) (Value.type "ArithmeticError")), (DictEntry.mk (PyData.keyHash P s89) (Value.str s89 89) (Value.type "AssertionError")), (DictEntry.mk (PyData.keyHash P s90) (Value.str s90 90) (Value.type "AttributeError")), (DictEntry.mk (PyData.keyHash P s91) (Value.str s91 91) (Value.type "BufferError")), (DictEntry.mk (PyData.keyHash P s92) (Value.str s92 92) (Value.type "EOFError")), (DictEntry.mk (PyData.keyHash P s93) (Value.str s93 93) (Value.type "ImportError")), (DictEntry.mk (PyData.keyHash P s94) (Value.str s94 94) (Value.type "LookupError")), (DictEntry.mk (PyData.keyHash P s95) (Value.str s95 95) (Value.type "MemoryError")), (DictEntry.mk (PyData.keyHash P s96) (Value.str s96 96) (Value.type "NameError")), (DictEntry.mk (PyData.keyHash P s97) (Value.str s97 97) (Value.type "OSError")), (DictEntry.mk (PyData.keyHash P s98) (Value.str s98 98) (Value.type "ReferenceError")), (DictEntry.mk (PyData.keyHash P s99) (Value.str s99 99) (Value.type "RuntimeError")), (DictEntry.mk (PyData.keyHash P s100) (Value.str s100 100) (Value.type "StopAsyncIteration")), (DictEntry.mk (PyData.keyHash P s101) (Value.str s101 101) (Value.type "StopIteration")), (DictEntry.mk (PyData.keyHash P s102) (Value.str s102 102) (Value.type "SyntaxError")), (DictEntry.mk (PyData.keyHash P s103) (Value.str s103 103) (Value.type "SystemError")), (DictEntry.mk (PyData.keyHash P s104) (Value.str s104 104) (Value.type "TypeError")), (DictEntry.mk (PyData.keyHash P s105) (Value.str s105 105) (Value.type "ValueError")), (DictEntry.mk (PyData.keyHash P s106) (Value.str s106 106) (Value.type "Warning")), (DictEntry.mk (PyData.keyHash P s107) (Value.str s107 107) (Value.type "FloatingPointError")), (DictEntry.mk (PyData.keyHash P s108) (Value.str s108 108) (Value.type "OverflowError")), (DictEntry.mk (PyData.keyHash P s109) (Value.str s109 109) (Value.type "ZeroDivisionError")), (DictEntry.mk (PyData.keyHash P s110) (Value.str s110 110) (Value.type "BytesWarning")), (DictEntry.mk (PyData.keyHash P s111) (Value.str s111 111) (Value.type "DeprecationWarning")), (DictEntry.mk (PyData.keyHash P s112) (Value.str s112 112) (Value.type "EncodingWarning")), (DictEntry.mk (PyData.keyHash P s113) (Value.str s113 113) (Value.type "FutureWarning")), (DictEntry.mk (PyData.keyHash P s114) (Value.str s114 114) (Value.type "ImportWarning")), (DictEntry.mk (PyData.keyHash P s115) (Value.str s115 115) (Value.type "PendingDeprecationWarning")), (DictEntry.mk (PyData.keyHash P s116) (Value.str s116 116) (Value.type "ResourceWarning")), (DictEntry.mk (PyData.keyHash P s117) (Value.str s117 117) (Value.type "RuntimeWarning")), (DictEntry.mk (PyData.keyHash P s118) (Value.str s118 118) (Value.type "SyntaxWarning")), (DictEntry.mk (PyData.keyHash P s119) (Value.str s119 119) (Value.type "UnicodeWarning")), (DictEntry.mk (PyData.keyHash P s120) (Value.str s120 120) (Value.type "UserWarning")), (DictEntry.mk (PyData.keyHash P s121) (Value.str s121 121) (Value.type "BlockingIOError")), (DictEntry.mk (PyData.keyHash P s122) (Value.str s122 122) (Value.type "ChildProcessError")), (DictEntry.mk (PyData.keyHash P s123) (Value.str s123 123) (Value.type "ConnectionError")), (DictEntry.mk (PyData.keyHash P s124) (Value.str s124 124) (Value.type "FileExistsError")), (DictEntry.mk (PyData.keyHash P s125) (Value.str s125 125) (Value.type "FileNotFoundError")), (DictEntry.mk (PyData.keyHash P s126) (Value.str s126 126) (Value.type "InterruptedError")), (DictEntry.mk (PyData.keyHash P s127) (Value.str s127 127) (Value.type "IsADirectoryError")), (DictEntry.mk (PyData.keyHash P s128) (Value.str s128 128) (Value.type "NotADirectoryError")), (DictEntry.mk (PyData.keyHash P s129) (Value.str s129 129) (Value.type "PermissionError")), (DictEntry.mk (PyData.keyHash P s130) (Value.str s130 130) (Value.type "ProcessLookupError")), (DictEntry.mk (PyData.keyHash P s131) (Value.str s131 131) (Value.type "TimeoutError")), (DictEntry.mk (PyData.keyHash P s132) (Value.str s132 132) (Value.type "IndentationError")), (DictEntry.mk (PyData.keyHash P s133) (Value.str s133 133) (Value.type "_IncompleteInputError")), (DictEntry.mk (PyData.keyHash P s134) (Value.str s134 134) (Value.type "IndexError")), (DictEntry.mk (PyData.keyHash P s135) (Value.str s135 135) (Value.type "KeyError")), (DictEntry.mk (PyData.keyHash P s136) (Value.str s136 136) (Value.type "ModuleNotFoundError")), (DictEntry.mk (PyData.keyHash P s137) (Value.str s137 137) (Value.type "NotImplementedError")), (DictEntry.mk (PyData.keyHash P s138) (Value.str s138 138) (Value.type "PythonFinalizationError")), (DictEntry.mk (PyData.keyHash P s139) (Value.str s139 139) (Value.type "RecursionError")), (DictEntry.mk (PyData.keyHash P s140) (Value.str s140 140) (Value.type "UnboundLocalError")), (DictEntry.mk (PyData.keyHash P s141) (Value.str s141 141) (Value.type "UnicodeError")), (DictEntry.mk (PyData.keyHash P s142) (Value.str s142 142) (Value.type "BrokenPipeError")), (DictEntry.mk (PyData.keyHash P s143) (Value.str s143 143) (Value.type "ConnectionAbortedError")), (DictEntry.mk (PyData.keyHash P s144) (Value.str s144 144) (Value.type "ConnectionRefusedError")), (DictEntry.mk (PyData.keyHash P s145) (Value.str s145 145) (Value.type "ConnectionResetError")), (DictEntry.mk (PyData.keyHash P s146) (Value.str s146 146) (Value.type "TabError")), (DictEntry.mk (PyData.keyHash P s147) (Value.str s147 147) (Value.type "UnicodeDecodeError")), (DictEntry.mk (PyData.keyHash P s148) (Value.str s148 148) (Value.type "UnicodeEncodeError")), (DictEntry.mk (PyData.keyHash P s149) (Value.str s149 149) (Value.type "UnicodeTranslateError")), (DictEntry.mk (PyData.keyHash P s150) (Value.str s150 150) (Value.type "ExceptionGroup")), (DictEntry.mk (PyData.keyHash P s151) (Value.str s151 151) (Value.type "OSError")), (DictEntry.mk (PyData.keyHash P s152) (Value.str s152 152) (Value.type "OSError")), (DictEntry.mk (PyData.keyHash P s153) (Value.str s153 153) (Value.builtin "open")), (DictEntry.mk (PyData.keyHash P s154) (Value.str s154 154) (Value.builtin "builtins.quit#opaque")), (DictEntry.mk (PyData.keyHash P s155) (Value.str s155 155) (Value.builtin "builtins.exit#opaque")), (DictEntry.mk (PyData.keyHash P s156) (Value.str s156 156) (Value.builtin "builtins.copyright#opaque")), (DictEntry.mk (PyData.keyHash P s157) (Value.str s157 157) (Value.builtin "builtins.credits#opaque")), (DictEntry.mk (PyData.keyHash P s158) (Value.str s158 158) (Value.builtin "builtins.license#opaque")), (DictEntry.mk (PyData.keyHash P s159) (Value.str s159 159) (Value.builtin "builtins.help#opaque"))] 159) #[])
noncomputable def o1 (p : Program) (P : Params) : Obj := (Obj.mk (Value.type "dict") none (Data.dict #[(DictEntry.mk (PyData.keyHash P s1) (Value.str s1 162) (Value.ref 4)), (DictEntry.mk (PyData.keyHash P s160) (Value.str s160 163) (Value.ref 5)), (DictEntry.mk (PyData.keyHash P s161) (Value.str s161 244) (Value.ref 12))] 3) #[])
noncomputable def o2 (p : Program) (P : Params) : Obj := (Obj.mk Value.none none (Data.dict #[(DictEntry.mk (PyData.keyHash P s162) (Value.str s162 183) (Value.bool Bool.true)), (DictEntry.mk (PyData.keyHash P s163) (Value.str s163 185) (Value.ref 14)), (DictEntry.mk (PyData.keyHash P s164) (Value.str s164 206) (Value.ref 18)), (DictEntry.mk (PyData.keyHash P s165) (Value.str s165 216) (Value.ref 22)), (DictEntry.mk (PyData.keyHash P s166) (Value.str s166 245) (Value.int 3 0)), (DictEntry.mk (PyData.keyHash P s167) (Value.str s167 270) (Value.bool Bool.true)), (DictEntry.mk (PyData.keyHash P s168) (Value.str s168 272) (Value.ref 27)), (DictEntry.mk (PyData.keyHash P s169) (Value.str s169 0) (Value.str s170 0)), (DictEntry.mk (PyData.keyHash P s171) (Value.str s171 273) (Value.str s172 0))] 9) #[])
noncomputable def o3 (p : Program) (P : Params) : Obj := (Obj.mk (Value.type "dict") none (Data.dict #[(DictEntry.mk (PyData.keyHash P s0) (Value.str s0 165) (Value.str s160 164)), (DictEntry.mk (PyData.keyHash P s2) (Value.str s2 166) Value.none), (DictEntry.mk (PyData.keyHash P s3) (Value.str s3 167) Value.none), (DictEntry.mk (PyData.keyHash P s4) (Value.str s4 168) (Value.builtin "__main__.__loader__#opaque")), (DictEntry.mk (PyData.keyHash P s5) (Value.str s5 169) Value.none), (DictEntry.mk (PyData.keyHash P s173) (Value.str s173 170) (Value.ref 6)), (DictEntry.mk (PyData.keyHash P s174) (Value.str s174 171) (Value.ref 4)), (DictEntry.mk (PyData.keyHash P s175) (Value.str s175 173) (Value.str s176 172)), (DictEntry.mk (PyData.keyHash P s177) (Value.str s177 174) Value.none), (DictEntry.mk (PyData.keyHash P s161) (Value.str s161 275) (Value.ref 12))] 10) #[])
noncomputable def o4 (p : Program) (P : Params) : Obj := (Obj.mk (Value.type "module") (some 0) Data.plain #[])
noncomputable def o5 (p : Program) (P : Params) : Obj := (Obj.mk (Value.type "module") (some 3) Data.plain #[])
noncomputable def o6 (p : Program) (P : Params) : Obj := (Obj.mk (Value.type "dict") none (Data.dict #[] 0) #[])
noncomputable def o7 (p : Program) (P : Params) : Obj := (Obj.mk (Value.type "tuple") none (Data.seq #[] 0) #[])
noncomputable def o8 (p : Program) (P : Params) : Obj := (Obj.mk Value.none none (Data.fields #[]) #[])
noncomputable def o9 (p : Program) (P : Params) : Obj := (Obj.mk (Value.type "code") none (Data.fields #[(Value.str s178 176), (Value.str s178 177), (Value.str s176 178), (Value.int 1 0), (Value.int 0 0), (Value.int 0 0), (Value.int 0 0), (Value.int 0 0), (Value.ref 7), (Value.bool Bool.false), (Value.int 175 0), (Value.ref 8), Value.none, Value.none, Value.none, Value.none, (Value.int 179 0), (Value.int 1 0), (Value.str s176 180)]) #[])
noncomputable def o10 (p : Program) (P : Params) : Obj := (Obj.mk (Value.type "frame") none Data.plain #[(some (Value.ref 9)), (some (Value.ref 3)), (some (Value.ref 3)), none, (some (Value.str s160 164)), none, (some (Value.ref 0))])
noncomputable def o11 (p : Program) (P : Params) : Obj := (Obj.mk (Value.type "dict") none (Data.dict #[(DictEntry.mk (PyData.keyHash P s0) (Value.str s0 247) (Value.str s161 246)), (DictEntry.mk (PyData.keyHash P s2) (Value.str s2 248) Value.none), (DictEntry.mk (PyData.keyHash P s3) (Value.str s3 250) (Value.str s179 249)), (DictEntry.mk (PyData.keyHash P s4) (Value.str s4 251) (Value.builtin "off-the-table:_sre.__loader__:shared#opaque")), (DictEntry.mk (PyData.keyHash P s5) (Value.str s5 252) (Value.builtin "off-the-table:_sre.__spec__:shared#opaque")), (DictEntry.mk (PyData.keyHash P s16) (Value.str s16 253) (Value.builtin "_sre.compile")), (DictEntry.mk (PyData.keyHash P s180) (Value.str s180 254) (Value.builtin "off-the-table:_sre.template:shared#opaque")), (DictEntry.mk (PyData.keyHash P s181) (Value.str s181 255) (Value.builtin "off-the-table:_sre.getcodesize:shared#opaque")), (DictEntry.mk (PyData.keyHash P s182) (Value.str s182 256) (Value.builtin "off-the-table:_sre.ascii_iscased:shared#opaque")), (DictEntry.mk (PyData.keyHash P s183) (Value.str s183 257) (Value.builtin "off-the-table:_sre.unicode_iscased:shared#opaque")), (DictEntry.mk (PyData.keyHash P s184) (Value.str s184 258) (Value.builtin "off-the-table:_sre.ascii_tolower:shared#opaque")), (DictEntry.mk (PyData.keyHash P s185) (Value.str s185 259) (Value.builtin "off-the-table:_sre.unicode_tolower:shared#opaque")), (DictEntry.mk (PyData.keyHash P s186) (Value.str s186 261) (Value.int 20230612 260)), (DictEntry.mk (PyData.keyHash P s187) (Value.str s187 263) (Value.int 4 262)), (DictEntry.mk (PyData.keyHash P s188) (Value.str s188 265) (Value.int 4294967295 264)), (DictEntry.mk (PyData.keyHash P s189) (Value.str s189 267) (Value.int 1073741823 266)), (DictEntry.mk (PyData.keyHash P s156) (Value.str s156 269) (Value.str s190 268))] 17) #[])
noncomputable def o12 (p : Program) (P : Params) : Obj := (Obj.mk (Value.type "module") (some 11) Data.plain #[])
noncomputable def o13 (p : Program) (P : Params) : Obj := (Obj.mk (Value.type "dict") none (Data.dict #[(DictEntry.mk (PyData.keyHash P s191) (Value.str s191 189) (Value.str s192 186)), (DictEntry.mk (PyData.keyHash P s193) (Value.str s193 190) (Value.int 971 187)), (DictEntry.mk (PyData.keyHash P s2) (Value.str s2 191) (Value.builtin "_frozen_importlib.BuiltinImporter.__doc__:str#opaque")), (DictEntry.mk (PyData.keyHash P s194) (Value.str s194 192) (Value.str s195 188)), (DictEntry.mk (PyData.keyHash P s196) (Value.str s196 193) (Value.builtin "_frozen_importlib.BuiltinImporter.find_spec#opaque")), (DictEntry.mk (PyData.keyHash P s197) (Value.str s197 194) (Value.builtin "_frozen_importlib.BuiltinImporter.create_module#opaque")), (DictEntry.mk (PyData.keyHash P s198) (Value.str s198 195) (Value.builtin "_frozen_importlib.BuiltinImporter.exec_module#opaque")), (DictEntry.mk (PyData.keyHash P s199) (Value.str s199 196) (Value.builtin "_frozen_importlib.BuiltinImporter.get_code#opaque")), (DictEntry.mk (PyData.keyHash P s200) (Value.str s200 197) (Value.builtin "_frozen_importlib.BuiltinImporter.get_source#opaque")), (DictEntry.mk (PyData.keyHash P s201) (Value.str s201 198) (Value.builtin "_frozen_importlib.BuiltinImporter.is_package#opaque")), (DictEntry.mk (PyData.keyHash P s202) (Value.str s202 199) (Value.builtin "_frozen_importlib.BuiltinImporter.load_module#opaque")), (DictEntry.mk (PyData.keyHash P s203) (Value.str s203 200) (Value.ref 15)), (DictEntry.mk (PyData.keyHash P s204) (Value.str s204 202) (Value.ref 16)), (DictEntry.mk (PyData.keyHash P s205) (Value.str s205 204) (Value.ref 17))] 14) #[])
noncomputable def o14 (p : Program) (P : Params) : Obj := (Obj.mk (Value.type "type") none (Data.cls (ClassData.mk s206 [(Value.type "object")] [(Value.ref 14), (Value.type "object")] 13 s206 Bool.true [] [] Bool.false none Bool.false)) #[])
noncomputable def o15 (p : Program) (P : Params) : Obj := (Obj.mk (Value.type "tuple") none (Data.seq #[] 0) #[])
noncomputable def o16 (p : Program) (P : Params) : Obj := (Obj.mk (Value.type "getset_descriptor") none (Data.fields #[(Value.str s204 201), (Value.ref 14), (Value.builtin "function.__dict__"), (Value.builtin "function.__dict__#set")]) #[])
noncomputable def o17 (p : Program) (P : Params) : Obj := (Obj.mk (Value.type "getset_descriptor") none (Data.fields #[(Value.str s205 203), (Value.ref 14), (Value.builtin "ExceptionGroup.__weakref__"), Value.none]) #[])
noncomputable def o18 (p : Program) (P : Params) : Obj := (Obj.mk Value.none none (Data.seq #[(Value.int 13 0), (Value.str s207 0), (Value.bool Bool.true), (Value.bool Bool.true), (Value.str s179 205), (Value.int 21 0), (Value.str s208 0), (Value.bool Bool.true), (Value.bool Bool.true), (Value.str s179 242)] 1) #[])
noncomputable def o19 (p : Program) (P : Params) : Obj := (Obj.mk (Value.type "list") none (Data.seq #[] 0) #[])
noncomputable def o20 (p : Program) (P : Params) : Obj := (Obj.mk (Value.type "dict") none (Data.dict #[(DictEntry.mk (PyData.keyHash P s209) (Value.str s209 208) (Value.str s161 207)), (DictEntry.mk (PyData.keyHash P s210) (Value.str s210 209) (Value.ref 14)), (DictEntry.mk (PyData.keyHash P s211) (Value.str s211 210) (Value.str s195 184)), (DictEntry.mk (PyData.keyHash P s212) (Value.str s212 211) Value.none), (DictEntry.mk (PyData.keyHash P s213) (Value.str s213 212) Value.none), (DictEntry.mk (PyData.keyHash P s214) (Value.str s214 213) (Value.ref 19)), (DictEntry.mk (PyData.keyHash P s215) (Value.str s215 214) (Value.bool Bool.false)), (DictEntry.mk (PyData.keyHash P s216) (Value.str s216 215) Value.none), (DictEntry.mk (PyData.keyHash P s217) (Value.str s217 243) (Value.bool Bool.false))] 9) #[])
noncomputable def o21 (p : Program) (P : Params) : Obj := (Obj.mk (Value.type "dict") none (Data.dict #[(DictEntry.mk (PyData.keyHash P s191) (Value.str s191 227) (Value.str s192 217)), (DictEntry.mk (PyData.keyHash P s193) (Value.str s193 228) (Value.int 562 218)), (DictEntry.mk (PyData.keyHash P s2) (Value.str s2 229) (Value.builtin "_frozen_importlib.ModuleSpec.__doc__:str#opaque")), (DictEntry.mk (PyData.keyHash P s218) (Value.str s218 230) (Value.builtin "_frozen_importlib.ModuleSpec.__init__#opaque")), (DictEntry.mk (PyData.keyHash P s219) (Value.str s219 231) (Value.builtin "_frozen_importlib.ModuleSpec.__repr__#opaque")), (DictEntry.mk (PyData.keyHash P s220) (Value.str s220 232) (Value.builtin "_frozen_importlib.ModuleSpec.__eq__#opaque")), (DictEntry.mk (PyData.keyHash P s221) (Value.str s221 233) (Value.builtin "_frozen_importlib.ModuleSpec.cached#opaque")), (DictEntry.mk (PyData.keyHash P s222) (Value.str s222 234) (Value.builtin "_frozen_importlib.ModuleSpec.parent#opaque")), (DictEntry.mk (PyData.keyHash P s223) (Value.str s223 235) (Value.builtin "_frozen_importlib.ModuleSpec.has_location#opaque")), (DictEntry.mk (PyData.keyHash P s203) (Value.str s203 236) (Value.ref 23)), (DictEntry.mk (PyData.keyHash P s204) (Value.str s204 238) (Value.ref 24)), (DictEntry.mk (PyData.keyHash P s205) (Value.str s205 240) (Value.ref 25)), (DictEntry.mk (PyData.keyHash P s224) (Value.str s224 241) Value.none)] 13) #[])
noncomputable def o22 (p : Program) (P : Params) : Obj := (Obj.mk (Value.type "type") none (Data.cls (ClassData.mk s225 [(Value.type "object")] [(Value.ref 22), (Value.type "object")] 21 s225 Bool.true [] [] Bool.false none Bool.false)) #[])
noncomputable def o23 (p : Program) (P : Params) : Obj := (Obj.mk (Value.type "tuple") none (Data.seq #[(Value.str s216 219), (Value.str s215 220), (Value.str s214 221), (Value.str s210 222), (Value.str s212 223), (Value.str s209 224), (Value.str s211 225), (Value.str s213 226)] 0) #[])
noncomputable def o24 (p : Program) (P : Params) : Obj := (Obj.mk (Value.type "getset_descriptor") none (Data.fields #[(Value.str s204 237), (Value.ref 22), (Value.builtin "function.__dict__"), (Value.builtin "function.__dict__#set")]) #[])
noncomputable def o25 (p : Program) (P : Params) : Obj := (Obj.mk (Value.type "getset_descriptor") none (Data.fields #[(Value.str s205 239), (Value.ref 22), (Value.builtin "ExceptionGroup.__weakref__"), Value.none]) #[])
noncomputable def o26 (p : Program) (P : Params) : Obj := (Obj.mk (Value.ref 22) (some 20) Data.plain #[])
noncomputable def o27 (p : Program) (P : Params) : Obj := (Obj.mk Value.none none (Data.seq #[(Value.int 11 0), (Value.str (Str.mk #[6, 247, 8, 95, 95, 110, 97, 109, 101, 95, 95, 6, 246, 4, 95, 115, 114, 101, 6, 248, 7, 95, 95, 100, 111, 99, 95, 95, 0, 6, 250, 11, 95, 95, 112, 97, 99, 107, 97, 103, 101, 95, 95, 6, 249, 0, 6, 251, 10, 95, 95, 108, 111, 97, 100, 101, 114, 95, 95, 4, 0, 0, 14, 6, 252, 8, 95, 95, 115, 112, 101, 99, 95, 95, 4, 0, 0, 26, 6, 253, 7, 99, 111, 109, 112, 105, 108, 101, 9, 12, 95, 115, 114, 101, 46, 99, 111, 109, 112, 105, 108, 101, 6, 254, 8, 116, 101, 109, 112, 108, 97, 116, 101, 9, 13, 95, 115, 114, 101, 46, 116, 101, 109, 112, 108, 97, 116, 101, 6, 255, 11, 103, 101, 116, 99, 111, 100, 101, 115, 105, 122, 101, 9, 16, 95, 115, 114, 101, 46, 103, 101, 116, 99, 111, 100, 101, 115, 105, 122, 101, 6, 256, 13, 97, 115, 99, 105, 105, 95, 105, 115, 99, 97, 115, 101, 100, 9, 18, 95, 115, 114, 101, 46, 97, 115, 99, 105, 105, 95, 105, 115, 99, 97, 115, 101, 100, 6, 257, 15, 117, 110, 105, 99, 111, 100, 101, 95, 105, 115, 99, 97, 115, 101, 100, 9, 20, 95, 115, 114, 101, 46, 117, 110, 105, 99, 111, 100, 101, 95, 105, 115, 99, 97, 115, 101, 100, 6, 258, 13, 97, 115, 99, 105, 105, 95, 116, 111, 108, 111, 119, 101, 114, 9, 18, 95, 115, 114, 101, 46, 97, 115, 99, 105, 105, 95, 116, 111, 108, 111, 119, 101, 114, 6, 259, 15, 117, 110, 105, 99, 111, 100, 101, 95, 116, 111, 108, 111, 119, 101, 114, 9, 20, 95, 115, 114, 101, 46, 117, 110, 105, 99, 111, 100, 101, 95, 116, 111, 108, 111, 119, 101, 114, 6, 261, 5, 77, 65, 71, 73, 67, 4, 260, 0, 20230612, 6, 263, 8, 67, 79, 68, 69, 83, 73, 90, 69, 4, 262, 0, 4, 6, 265, 9, 77, 65, 88, 82, 69, 80, 69, 65, 84, 4, 264, 0, 4294967295, 6, 267, 9, 77, 65, 88, 71, 82, 79, 85, 80, 83, 4, 266, 0, 1073741823, 6, 269, 9, 99, 111, 112, 121, 114, 105, 103, 104, 116, 6, 268, 53, 32, 83, 82, 69, 32, 50, 46, 50, 46, 50, 32, 67, 111, 112, 121, 114, 105, 103, 104, 116, 32, 40, 99, 41, 32, 49, 57, 57, 55, 45, 50, 48, 48, 50, 32, 98, 121, 32, 83, 101, 99, 114, 101, 116, 32, 76, 97, 98, 115, 32, 65, 66, 32]) 0), (Value.bool Bool.true), (Value.bool Bool.false), (Value.str s161 271)] 0) #[])
noncomputable def tS0 (p : Program) (P : Params) : BT := (.node (o0 p P) (.node (o1 p P) (.node (o3 p P) (.node (o7 p P) (.node (o15 p P) .nil .nil) (.node (o23 p P) .nil .nil)) (.node (o11 p P) (.node (o19 p P) .nil .nil) (.node (o27 p P) .nil .nil))) (.node (o5 p P) (.node (o9 p P) (.node (o17 p P) .nil .nil) (.node (o25 p P) .nil .nil)) (.node (o13 p P) (.node (o21 p P) .nil .nil) .nil))) (.node (o2 p P) (.node (o4 p P) (.node (o8 p P) (.node (o16 p P) .nil .nil) (.node (o24 p P) .nil .nil)) (.node (o12 p P) (.node (o20 p P) .nil .nil) .nil)) (.node (o6 p P) (.node (o10 p P) (.node (o18 p P) .nil .nil) (.node (o26 p P) .nil .nil)) (.node (o14 p P) (.node (o22 p P) .nil .nil) .nil))))
noncomputable def S0T (p : Program) (w : World) (os : OsState) : SharedT := SharedT.mk (tS0 p w.params) 28 (Life.mk [] [] [] 0 [] [] Bool.false #[] [] 0 Bool.false Bool.false Bool.false 0 [2000, 10, 10] Bool.false 0 Bool.true [] [] 0 Bool.false) #[] (Drawn.mk 0 0 0 0) 276 os
noncomputable def o28 (p : Program) (P : Params) : Obj := (Obj.mk (Value.type "tuple") none (Data.seq #[] 0) #[])
noncomputable def o29 (p : Program) (P : Params) : Obj := (Obj.mk Value.none none (Data.fields #[]) #[])
noncomputable def o30 (p : Program) (P : Params) : Obj := (Obj.mk (Value.type "code") none (Data.fields #[(Value.str s178 277), (Value.str s178 278), (Value.str s176 279), (Value.int 1 0), (Value.int 0 0), (Value.int 0 0), (Value.int 0 0), (Value.int 0 0), (Value.ref 28), (Value.bool Bool.false), (Value.int 276 0), (Value.ref 29), Value.none, Value.none, Value.none, Value.none, (Value.int 280 0), (Value.int 1 0), (Value.str s176 281)]) #[])
noncomputable def o31 (p : Program) (P : Params) : Obj := (Obj.mk (Value.type "frame") none Data.plain #[(some (Value.ref 30)), (some (Value.ref 3)), (some (Value.ref 3)), none, (some (Value.str s160 164)), none, (some (Value.ref 0))])
noncomputable def tSa (p : Program) (P : Params) : BT := (.node (o0 p P) (.node (o1 p P) (.node (o3 p P) (.node (o7 p P) (.node (o15 p P) (.node (o31 p P) .nil .nil) .nil) (.node (o23 p P) .nil .nil)) (.node (o11 p P) (.node (o19 p P) .nil .nil) (.node (o27 p P) .nil .nil))) (.node (o5 p P) (.node (o9 p P) (.node (o17 p P) .nil .nil) (.node (o25 p P) .nil .nil)) (.node (o13 p P) (.node (o21 p P) .nil .nil) (.node (o29 p P) .nil .nil)))) (.node (o2 p P) (.node (o4 p P) (.node (o8 p P) (.node (o16 p P) .nil .nil) (.node (o24 p P) .nil .nil)) (.node (o12 p P) (.node (o20 p P) .nil .nil) (.node (o28 p P) .nil .nil))) (.node (o6 p P) (.node (o10 p P) (.node (o18 p P) .nil .nil) (.node (o26 p P) .nil .nil)) (.node (o14 p P) (.node (o22 p P) .nil .nil) (.node (o30 p P) .nil .nil)))))
noncomputable def SaT (p : Program) (w : World) (os : OsState) : SharedT := SharedT.mk (tSa p w.params) 32 (Life.mk [] [] [] 0 [] [] Bool.false #[] [] 0 Bool.false Bool.false Bool.false 0 [2000, 10, 10] Bool.false 0 Bool.true [] [] 0 Bool.false) #[] (Drawn.mk 0 0 0 0) 282 os
noncomputable def Sapos : Pos := (Pos.mk 0 0 0 0)
noncomputable def tSb (p : Program) (P : Params) : BT := (.node (o0 p P) (.node (o1 p P) (.node (o3 p P) (.node (o7 p P) (.node (o15 p P) (.node (o31 p P) .nil .nil) .nil) (.node (o23 p P) .nil .nil)) (.node (o11 p P) (.node (o19 p P) .nil .nil) (.node (o27 p P) .nil .nil))) (.node (o5 p P) (.node (o9 p P) (.node (o17 p P) .nil .nil) (.node (o25 p P) .nil .nil)) (.node (o13 p P) (.node (o21 p P) .nil .nil) (.node (o29 p P) .nil .nil)))) (.node (o2 p P) (.node (o4 p P) (.node (o8 p P) (.node (o16 p P) .nil .nil) (.node (o24 p P) .nil .nil)) (.node (o12 p P) (.node (o20 p P) .nil .nil) (.node (o28 p P) .nil .nil))) (.node (o6 p P) (.node (o10 p P) (.node (o18 p P) .nil .nil) (.node (o26 p P) .nil .nil)) (.node (o14 p P) (.node (o22 p P) .nil .nil) (.node (o30 p P) .nil .nil)))))
noncomputable def SbT (p : Program) (w : World) (os : OsState) : SharedT := SharedT.mk (tSb p w.params) 32 (Life.mk [] [] [] 0 [] [] Bool.false #[] [] 0 Bool.false Bool.false Bool.false 0 [2000, 10, 10] Bool.false 0 Bool.true [] [] 0 Bool.false) #[] (Drawn.mk 0 0 0 0) 282 os
noncomputable def Sbpos : Pos := (Pos.mk 0 0 0 0)
noncomputable def o32 (p : Program) (P : Params) : Obj := (Obj.mk (Value.type "dict") none (Data.dict #[(DictEntry.mk (PyData.keyHash P s0) (Value.str s0 165) (Value.str s226 520)), (DictEntry.mk (PyData.keyHash P s2) (Value.str s2 166) Value.none), (DictEntry.mk (PyData.keyHash P s3) (Value.str s3 167) Value.none), (DictEntry.mk (PyData.keyHash P s4) (Value.str s4 168) (Value.builtin "__main__.__loader__#opaque")), (DictEntry.mk (PyData.keyHash P s5) (Value.str s5 169) Value.none), (DictEntry.mk (PyData.keyHash P s173) (Value.str s173 170) (Value.ref 6)), (DictEntry.mk (PyData.keyHash P s174) (Value.str s174 171) (Value.ref 4)), (DictEntry.mk (PyData.keyHash P s175) (Value.str s175 173) (Value.str s176 172)), (DictEntry.mk (PyData.keyHash P s177) (Value.str s177 174) Value.none), (DictEntry.mk (PyData.keyHash P s161) (Value.str s161 275) (Value.ref 12)), (DictEntry.mk (PyData.keyHash P s227) (Value.str s227 288) (Value.ref 38)), (DictEntry.mk (PyData.keyHash P s228) (Value.str s228 293) (Value.int (-1) 292)), (DictEntry.mk (PyData.keyHash P s229) (Value.str s229 296) (Value.int (-2) 295)), (DictEntry.mk (PyData.keyHash P s230) (Value.str s230 333) (Value.ref 57)), (DictEntry.mk (PyData.keyHash P s231) (Value.str s231 351) (Value.ref 72)), (DictEntry.mk (PyData.keyHash P s232) (Value.str s232 470) (Value.ref 154)), (DictEntry.mk (PyData.keyHash P s233) (Value.str s233 510) (Value.ref 163)), (DictEntry.mk (PyData.keyHash P s234) (Value.str s234 519) (Value.ref 170))] 18) #[])
noncomputable def o33 (p : Program) (P : Params) : Obj := (Obj.mk Value.none none (Data.fields #[(Value.int 2 0), (Value.int 0 0), (Value.ref 37), (Value.int 8 0), (Value.int 0 0), (Value.ref 44), (Value.int 15 0), (Value.int 0 0), (Value.ref 68), (Value.int 17 0), (Value.int 0 0), (Value.ref 81), (Value.int 125 0), (Value.int 0 0), (Value.ref 169)]) #[])
noncomputable def o34 (p : Program) (P : Params) : Obj := (Obj.mk (Value.type "tuple") none (Data.seq #[] 0) #[])
noncomputable def o35 (p : Program) (P : Params) : Obj := (Obj.mk Value.none none (Data.fields #[]) #[])
noncomputable def o36 (p : Program) (P : Params) : Obj := (Obj.mk (Value.type "tuple") none (Data.seq #[(Value.str s235 285)] 0) #[])
noncomputable def o37 (p : Program) (P : Params) : Obj := (Obj.mk (Value.type "tuple") none (Data.seq #[] 0) #[])
noncomputable def o38 (p : Program) (P : Params) : Obj := (Obj.mk Value.none none (Data.func (fnD (a1 p 1) s227 s227 0 [] Value.none Value.none Value.none Value.none none Value.none Value.none 0)) #[])
noncomputable def o39 (p : Program) (P : Params) : Obj := (Obj.mk (Value.type "code") none (Data.fields #[(Value.str s227 282), (Value.str s227 283), (Value.str s176 284), (Value.int 2 0), (Value.int 1 0), (Value.int 0 0), (Value.int 0 0), (Value.int 3 0), (Value.ref 32), (Value.bool Bool.true), (Value.int 276 0), (Value.ref 33), Value.none, (Value.ref 34), (Value.ref 35), (Value.ref 36), (Value.int 286 0), (Value.int 2 0), (Value.str s176 287)]) #[])
noncomputable def o40 (p : Program) (P : Params) : Obj := (Obj.mk (Value.type "function") none (Data.func (fnD (a1 p 1) s227 s227 3 [] Value.none Value.none Value.none (Value.str s160 164) none (Value.ref 37) Value.none 0)) #[])
noncomputable def o41 (p : Program) (P : Params) : Obj := (Obj.mk (Value.type "tuple") none (Data.seq #[] 0) #[])
noncomputable def o42 (p : Program) (P : Params) : Obj := (Obj.mk (Value.type "builtin_function_or_method") none (Data.fields #[(Value.builtin "type.__prepare__"), (Value.type "type")]) #[])
noncomputable def o43 (p : Program) (P : Params) : Obj := (Obj.mk (Value.type "dict") none (Data.dict #[(DictEntry.mk (PyData.keyHash P s191) (Value.str s191 304) (Value.str s236 289)), (DictEntry.mk (PyData.keyHash P s237) (Value.str s237 306) (Value.str s230 305)), (DictEntry.mk (PyData.keyHash P s193) (Value.str s193 308) (Value.int 8 307)), (DictEntry.mk (PyData.keyHash P s238) (Value.str s238 312) (Value.ref 46)), (DictEntry.mk (PyData.keyHash P s218) (Value.str s218 320) (Value.ref 53)), (DictEntry.mk (PyData.keyHash P s203) (Value.str s203 324) (Value.ref 54))] 6) #[])
noncomputable def o44 (p : Program) (P : Params) : Obj := (Obj.mk (Value.type "tuple") none (Data.seq #[] 0) #[])
noncomputable def o45 (p : Program) (P : Params) : Obj := (Obj.mk Value.none none (Data.fields #[(Value.int 11 0), (Value.int 4 0), (Value.ref 52)]) #[])
noncomputable def o46 (p : Program) (P : Params) : Obj := (Obj.mk (Value.type "code") none (Data.fields #[(Value.str s230 299), (Value.str s230 300), (Value.str s176 301), (Value.int 8 0), (Value.int 0 0), (Value.int 0 0), (Value.int 0 0), (Value.int 0 0), (Value.ref 42), (Value.bool Bool.false), (Value.int 276 0), (Value.ref 43), Value.none, Value.none, Value.none, Value.none, (Value.int 302 0), (Value.int 8 0), (Value.str s176 303)]) #[])
noncomputable def o47 (p : Program) (P : Params) : Obj := (Obj.mk (Value.type "frame") none Data.plain #[(some (Value.ref 44)), (some (Value.ref 3)), (some (Value.ref 41)), none, (some (Value.str s236 289)), none, (some (Value.ref 0))])
noncomputable def o48 (p : Program) (P : Params) : Obj := (Obj.mk (Value.type "tuple") none (Data.seq #[(Value.str s239 309), (Value.str s240 310), (Value.str s241 311)] 0) #[])
noncomputable def o49 (p : Program) (P : Params) : Obj := (Obj.mk (Value.type "tuple") none (Data.seq #[] 0) #[])
noncomputable def o50 (p : Program) (P : Params) : Obj := (Obj.mk Value.none none (Data.fields #[]) #[])
noncomputable def o51 (p : Program) (P : Params) : Obj := (Obj.mk (Value.type "tuple") none (Data.seq #[(Value.str s242 316), (Value.str s239 317)] 0) #[])
noncomputable def o52 (p : Program) (P : Params) : Obj := (Obj.mk (Value.type "tuple") none (Data.seq #[] 0) #[])
noncomputable def o53 (p : Program) (P : Params) : Obj := (Obj.mk Value.none none (Data.func (fnD (a2 p 5 1) s218 s243 0 [] Value.none Value.none Value.none Value.none none Value.none Value.none 0)) #[])
noncomputable def o54 (p : Program) (P : Params) : Obj := (Obj.mk (Value.type "code") none (Data.fields #[(Value.str s218 313), (Value.str s243 314), (Value.str s176 315), (Value.int 11 0), (Value.int 2 0), (Value.int 0 0), (Value.int 0 0), (Value.int 3 0), (Value.ref 47), (Value.bool Bool.true), (Value.int 276 0), (Value.ref 48), Value.none, (Value.ref 49), (Value.ref 50), (Value.ref 51), (Value.int 318 0), (Value.int 11 0), (Value.str s176 319)]) #[])
noncomputable def o55 (p : Program) (P : Params) : Obj := (Obj.mk (Value.type "function") none (Data.func (fnD (a2 p 5 1) s218 s243 3 [] Value.none Value.none Value.none (Value.str s236 289) none (Value.ref 52) Value.none 0)) #[])
noncomputable def o56 (p : Program) (P : Params) : Obj := (Obj.mk (Value.type "tuple") none (Data.seq #[(Value.str s239 321), (Value.str s240 322), (Value.str s241 323)] 0) #[])
noncomputable def o57 (p : Program) (P : Params) : Obj := (Obj.mk (Value.type "list") none (Data.seq #[(Value.str s239 309), (Value.str s240 310), (Value.str s241 311)] 1) #[])
noncomputable def o58 (p : Program) (P : Params) : Obj := (Obj.mk (Value.type "dict") none (Data.dict #[(DictEntry.mk (PyData.keyHash P s191) (Value.str s191 304) (Value.str s236 289)), (DictEntry.mk (PyData.keyHash P s193) (Value.str s193 308) (Value.int 8 307)), (DictEntry.mk (PyData.keyHash P s238) (Value.str s238 312) (Value.ref 46)), (DictEntry.mk (PyData.keyHash P s218) (Value.str s218 320) (Value.ref 53)), (DictEntry.mk (PyData.keyHash P s203) (Value.str s203 324) (Value.ref 54)), (DictEntry.mk (PyData.keyHash P s239) (Value.str s239 326) (Value.ref 58)), (DictEntry.mk (PyData.keyHash P s240) (Value.str s240 328) (Value.ref 59)), (DictEntry.mk (PyData.keyHash P s241) (Value.str s241 330) (Value.ref 60)), (DictEntry.mk (PyData.keyHash P s2) (Value.str s2 331) Value.none)] 5) #[])
noncomputable def o59 (p : Program) (P : Params) : Obj := (Obj.mk (Value.type "type") none (Data.cls (ClassData.mk s230 [(Value.type "object")] [(Value.ref 57), (Value.type "object")] 56 s230 Bool.false [s239, s240, s241] [] Bool.false none Bool.false)) #[none, none, (some (Value.str s230 297)), (some (Value.str s230 305)), (some (Value.builtin "object.__new__")), (some (Value.bool Bool.false))])
noncomputable def o60 (p : Program) (P : Params) : Obj := (Obj.mk (Value.type "member_descriptor") none (Data.fields #[(Value.str s239 325), (Value.ref 57), (Value.builtin "proto.slot"), (Value.builtin "proto.slot#set"), (Value.int 2 0)]) #[])
noncomputable def o61 (p : Program) (P : Params) : Obj := (Obj.mk (Value.type "member_descriptor") none (Data.fields #[(Value.str s240 327), (Value.ref 57), (Value.builtin "proto.slot"), (Value.builtin "proto.slot#set"), (Value.int 1 0)]) #[])
noncomputable def o62 (p : Program) (P : Params) : Obj := (Obj.mk (Value.type "member_descriptor") none (Data.fields #[(Value.str s241 329), (Value.ref 57), (Value.builtin "proto.slot"), (Value.builtin "proto.slot#set"), (Value.int 0 0)]) #[])
noncomputable def o63 (p : Program) (P : Params) : Obj := (Obj.mk (Value.type "super") none (Data.fields #[(Value.ref 57), (Value.ref 57), (Value.ref 57)]) #[])
noncomputable def o64 (p : Program) (P : Params) : Obj := (Obj.mk (Value.type "builtin_function_or_method") none (Data.fields #[(Value.builtin "object.__init_subclass__"), (Value.ref 57)]) #[])
noncomputable def o65 (p : Program) (P : Params) : Obj := (Obj.mk (Value.type "tuple") none (Data.seq #[(Value.type "ValueError")] 0) #[])
noncomputable def o66 (p : Program) (P : Params) : Obj := (Obj.mk (Value.type "builtin_function_or_method") none (Data.fields #[(Value.builtin "type.__prepare__"), (Value.type "type")]) #[])
noncomputable def o67 (p : Program) (P : Params) : Obj := (Obj.mk (Value.type "dict") none (Data.dict #[(DictEntry.mk (PyData.keyHash P s191) (Value.str s191 341) (Value.str s236 289)), (DictEntry.mk (PyData.keyHash P s237) (Value.str s237 343) (Value.str s231 342)), (DictEntry.mk (PyData.keyHash P s193) (Value.str s193 345) (Value.int 15 344)), (DictEntry.mk (PyData.keyHash P s203) (Value.str s203 346) (Value.ref 70))] 4) #[])
noncomputable def o68 (p : Program) (P : Params) : Obj := (Obj.mk (Value.type "tuple") none (Data.seq #[] 0) #[])
noncomputable def o69 (p : Program) (P : Params) : Obj := (Obj.mk Value.none none (Data.fields #[]) #[])
noncomputable def o70 (p : Program) (P : Params) : Obj := (Obj.mk (Value.type "code") none (Data.fields #[(Value.str s231 336), (Value.str s231 337), (Value.str s176 338), (Value.int 15 0), (Value.int 0 0), (Value.int 0 0), (Value.int 0 0), (Value.int 0 0), (Value.ref 66), (Value.bool Bool.false), (Value.int 276 0), (Value.ref 67), Value.none, Value.none, Value.none, Value.none, (Value.int 339 0), (Value.int 15 0), (Value.str s176 340)]) #[])
noncomputable def o71 (p : Program) (P : Params) : Obj := (Obj.mk (Value.type "frame") none Data.plain #[(some (Value.ref 68)), (some (Value.ref 3)), (some (Value.ref 65)), none, (some (Value.str s236 289)), none, (some (Value.ref 0))])
noncomputable def o72 (p : Program) (P : Params) : Obj := (Obj.mk (Value.type "tuple") none (Data.seq #[] 0) #[])
noncomputable def o73 (p : Program) (P : Params) : Obj := (Obj.mk (Value.type "dict") none (Data.dict #[(DictEntry.mk (PyData.keyHash P s191) (Value.str s191 341) (Value.str s236 289)), (DictEntry.mk (PyData.keyHash P s193) (Value.str s193 345) (Value.int 15 344)), (DictEntry.mk (PyData.keyHash P s203) (Value.str s203 346) (Value.ref 70)), (DictEntry.mk (PyData.keyHash P s205) (Value.str s205 348) (Value.ref 73)), (DictEntry.mk (PyData.keyHash P s2) (Value.str s2 349) Value.none)] 3) #[])
noncomputable def o74 (p : Program) (P : Params) : Obj := (Obj.mk (Value.type "type") none (Data.cls (ClassData.mk s231 [(Value.type "ValueError")] [(Value.ref 72), (Value.type "ValueError"), (Value.type "Exception"), (Value.type "BaseException"), (Value.type "object")] 71 s231 Bool.true [] [] Bool.false none Bool.false)) #[(some (Value.ref 63)), none, (some (Value.str s231 334)), (some (Value.str s231 342)), (some (Value.builtin "ValueError.__new__")), (some (Value.bool Bool.true))])
noncomputable def o75 (p : Program) (P : Params) : Obj := (Obj.mk (Value.type "getset_descriptor") none (Data.fields #[(Value.str s205 347), (Value.ref 72), (Value.builtin "ExceptionGroup.__weakref__"), Value.none]) #[])
noncomputable def o76 (p : Program) (P : Params) : Obj := (Obj.mk (Value.type "super") none (Data.fields #[(Value.ref 72), (Value.ref 72), (Value.ref 72)]) #[])
noncomputable def o77 (p : Program) (P : Params) : Obj := (Obj.mk (Value.type "builtin_function_or_method") none (Data.fields #[(Value.builtin "object.__init_subclass__"), (Value.ref 72)]) #[])
noncomputable def o78 (p : Program) (P : Params) : Obj := (Obj.mk (Value.type "tuple") none (Data.seq #[] 0) #[])
noncomputable def o79 (p : Program) (P : Params) : Obj := (Obj.mk (Value.type "builtin_function_or_method") none (Data.fields #[(Value.builtin "type.__prepare__"), (Value.type "type")]) #[])
noncomputable def o80 (p : Program) (P : Params) : Obj := (Obj.mk (Value.type "dict") none (Data.dict #[(DictEntry.mk (PyData.keyHash P s191) (Value.str s191 359) (Value.str s236 289)), (DictEntry.mk (PyData.keyHash P s237) (Value.str s237 361) (Value.str s232 360)), (DictEntry.mk (PyData.keyHash P s193) (Value.str s193 363) (Value.int 17 362)), (DictEntry.mk (PyData.keyHash P s218) (Value.str s218 373) (Value.ref 90)), (DictEntry.mk (PyData.keyHash P s244) (Value.str s244 382) (Value.ref 97)), (DictEntry.mk (PyData.keyHash P s245) (Value.str s245 394) (Value.ref 104)), (DictEntry.mk (PyData.keyHash P s246) (Value.str s246 400) (Value.ref 109)), (DictEntry.mk (PyData.keyHash P s247) (Value.str s247 410) (Value.ref 116)), (DictEntry.mk (PyData.keyHash P s248) (Value.str s248 417) (Value.ref 123)), (DictEntry.mk (PyData.keyHash P s249) (Value.str s249 424) (Value.ref 130)), (DictEntry.mk (PyData.keyHash P s250) (Value.str s250 438) (Value.ref 137)), (DictEntry.mk (PyData.keyHash P s251) (Value.str s251 451) (Value.ref 144)), (DictEntry.mk (PyData.keyHash P s252) (Value.str s252 458) (Value.ref 151)), (DictEntry.mk (PyData.keyHash P s203) (Value.str s203 463) (Value.ref 152))] 14) #[])
noncomputable def o81 (p : Program) (P : Params) : Obj := (Obj.mk (Value.type "tuple") none (Data.seq #[] 0) #[])
noncomputable def o82 (p : Program) (P : Params) : Obj := (Obj.mk Value.none none (Data.fields #[(Value.int 19 0), (Value.int 4 0), (Value.ref 89), (Value.int 28 0), (Value.int 4 0), (Value.ref 96), (Value.int 33 0), (Value.int 4 0), (Value.ref 103), (Value.int 42 0), (Value.int 4 0), (Value.ref 108), (Value.int 50 0), (Value.int 4 0), (Value.ref 115), (Value.int 61 0), (Value.int 4 0), (Value.ref 122), (Value.int 66 0), (Value.int 4 0), (Value.ref 129), (Value.int 69 0), (Value.int 4 0), (Value.ref 136), (Value.int 92 0), (Value.int 4 0), (Value.ref 143), (Value.int 121 0), (Value.int 4 0), (Value.ref 150)]) #[])
noncomputable def o83 (p : Program) (P : Params) : Obj := (Obj.mk (Value.type "code") none (Data.fields #[(Value.str s232 354), (Value.str s232 355), (Value.str s176 356), (Value.int 17 0), (Value.int 0 0), (Value.int 0 0), (Value.int 0 0), (Value.int 0 0), (Value.ref 79), (Value.bool Bool.false), (Value.int 276 0), (Value.ref 80), Value.none, Value.none, Value.none, Value.none, (Value.int 357 0), (Value.int 17 0), (Value.str s176 358)]) #[])
noncomputable def o84 (p : Program) (P : Params) : Obj := (Obj.mk (Value.type "frame") none Data.plain #[(some (Value.ref 81)), (some (Value.ref 3)), (some (Value.ref 78)), none, (some (Value.str s236 289)), none, (some (Value.ref 0))])
noncomputable def o85 (p : Program) (P : Params) : Obj := (Obj.mk (Value.type "tuple") none (Data.seq #[Value.none] 0) #[])
noncomputable def o86 (p : Program) (P : Params) : Obj := (Obj.mk (Value.type "tuple") none (Data.seq #[] 0) #[])
noncomputable def o87 (p : Program) (P : Params) : Obj := (Obj.mk Value.none none (Data.fields #[]) #[])
noncomputable def o88 (p : Program) (P : Params) : Obj := (Obj.mk (Value.type "tuple") none (Data.seq #[(Value.str s242 367), (Value.str s253 368), (Value.str s239 369), (Value.str s254 370)] 0) #[])
noncomputable def o89 (p : Program) (P : Params) : Obj := (Obj.mk (Value.type "tuple") none (Data.seq #[] 0) #[])
noncomputable def o90 (p : Program) (P : Params) : Obj := (Obj.mk Value.none none (Data.func (fnD (a2 p 7 0) s218 s255 0 [] Value.none Value.none Value.none Value.none none Value.none Value.none 0)) #[])
noncomputable def o91 (p : Program) (P : Params) : Obj := (Obj.mk (Value.type "code") none (Data.fields #[(Value.str s218 364), (Value.str s255 365), (Value.str s176 366), (Value.int 19 0), (Value.int 2 0), (Value.int 0 0), (Value.int 0 0), (Value.int 3 0), (Value.ref 84), (Value.bool Bool.true), (Value.int 276 0), (Value.ref 85), Value.none, (Value.ref 86), (Value.ref 87), (Value.ref 88), (Value.int 371 0), (Value.int 19 0), (Value.str s176 372)]) #[])
noncomputable def o92 (p : Program) (P : Params) : Obj := (Obj.mk (Value.type "function") none (Data.func (fnD (a2 p 7 0) s218 s255 3 [] (Value.ref 83) Value.none Value.none (Value.str s236 289) none (Value.ref 89) Value.none 0)) #[])
noncomputable def o93 (p : Program) (P : Params) : Obj := (Obj.mk (Value.type "tuple") none (Data.seq #[] 0) #[])
noncomputable def o94 (p : Program) (P : Params) : Obj := (Obj.mk Value.none none (Data.fields #[]) #[])
noncomputable def o95 (p : Program) (P : Params) : Obj := (Obj.mk (Value.type "tuple") none (Data.seq #[(Value.str s242 377), (Value.str s239 378), (Value.str s256 379)] 0) #[])
noncomputable def o96 (p : Program) (P : Params) : Obj := (Obj.mk (Value.type "tuple") none (Data.seq #[] 0) #[])
noncomputable def o97 (p : Program) (P : Params) : Obj := (Obj.mk Value.none none (Data.func (fnD (a2 p 7 1) s244 s257 0 [] Value.none Value.none Value.none Value.none none Value.none Value.none 0)) #[])
noncomputable def o98 (p : Program) (P : Params) : Obj := (Obj.mk (Value.type "code") none (Data.fields #[(Value.str s244 374), (Value.str s257 375), (Value.str s176 376), (Value.int 28 0), (Value.int 2 0), (Value.int 0 0), (Value.int 0 0), (Value.int 3 0), (Value.ref 91), (Value.bool Bool.true), (Value.int 276 0), (Value.ref 92), Value.none, (Value.ref 93), (Value.ref 94), (Value.ref 95), (Value.int 380 0), (Value.int 28 0), (Value.str s176 381)]) #[])
noncomputable def o99 (p : Program) (P : Params) : Obj := (Obj.mk (Value.type "function") none (Data.func (fnD (a2 p 7 1) s244 s257 3 [] Value.none Value.none Value.none (Value.str s236 289) none (Value.ref 96) Value.none 0)) #[])
noncomputable def o100 (p : Program) (P : Params) : Obj := (Obj.mk (Value.type "tuple") none (Data.seq #[] 0) #[])
noncomputable def o101 (p : Program) (P : Params) : Obj := (Obj.mk Value.none none (Data.fields #[]) #[])
noncomputable def o102 (p : Program) (P : Params) : Obj := (Obj.mk (Value.type "tuple") none (Data.seq #[(Value.str s242 386), (Value.str s239 387), (Value.str s254 388), (Value.str s258 389), (Value.str s259 390), (Value.str s260 391)] 0) #[])
noncomputable def o103 (p : Program) (P : Params) : Obj := (Obj.mk (Value.type "tuple") none (Data.seq #[] 0) #[])
noncomputable def o104 (p : Program) (P : Params) : Obj := (Obj.mk Value.none none (Data.func (fnD (a2 p 7 2) s245 s261 0 [] Value.none Value.none Value.none Value.none none Value.none Value.none 0)) #[])
noncomputable def o105 (p : Program) (P : Params) : Obj := (Obj.mk (Value.type "code") none (Data.fields #[(Value.str s245 383), (Value.str s261 384), (Value.str s176 385), (Value.int 33 0), (Value.int 2 0), (Value.int 0 0), (Value.int 0 0), (Value.int 7 0), (Value.ref 98), (Value.bool Bool.true), (Value.int 276 0), (Value.ref 99), Value.none, (Value.ref 100), (Value.ref 101), (Value.ref 102), (Value.int 392 0), (Value.int 33 0), (Value.str s176 393)]) #[])
noncomputable def o106 (p : Program) (P : Params) : Obj := (Obj.mk (Value.type "function") none (Data.func (fnD (a2 p 7 2) s245 s261 3 [] Value.none Value.none Value.none (Value.str s236 289) none (Value.ref 103) Value.none 0)) #[])
noncomputable def o107 (p : Program) (P : Params) : Obj := (Obj.mk (Value.type "tuple") none (Data.seq #[] 0) #[])
noncomputable def o108 (p : Program) (P : Params) : Obj := (Obj.mk Value.none none (Data.fields #[]) #[])
noncomputable def o109 (p : Program) (P : Params) : Obj := (Obj.mk Value.none none (Data.func (fnD (a2 p 7 3) s246 s262 0 [] Value.none Value.none Value.none Value.none none Value.none Value.none 0)) #[])
noncomputable def o110 (p : Program) (P : Params) : Obj := (Obj.mk (Value.type "code") none (Data.fields #[(Value.str s246 395), (Value.str s262 396), (Value.str s176 397), (Value.int 42 0), (Value.int 1 0), (Value.int 0 0), (Value.int 0 0), (Value.int 3 0), (Value.ref 105), (Value.bool Bool.true), (Value.int 276 0), (Value.ref 106), Value.none, Value.none, Value.none, (Value.ref 107), (Value.int 398 0), (Value.int 42 0), (Value.str s176 399)]) #[])
noncomputable def o111 (p : Program) (P : Params) : Obj := (Obj.mk (Value.type "function") none (Data.func (fnD (a2 p 7 3) s246 s262 3 [] Value.none Value.none Value.none (Value.str s236 289) none (Value.ref 108) Value.none 0)) #[])
noncomputable def o112 (p : Program) (P : Params) : Obj := (Obj.mk (Value.type "tuple") none (Data.seq #[] 0) #[])
noncomputable def o113 (p : Program) (P : Params) : Obj := (Obj.mk Value.none none (Data.fields #[]) #[])
noncomputable def o114 (p : Program) (P : Params) : Obj := (Obj.mk (Value.type "tuple") none (Data.seq #[(Value.str s242 404), (Value.str s256 405), (Value.str s263 406), (Value.str s239 407)] 0) #[])
noncomputable def o115 (p : Program) (P : Params) : Obj := (Obj.mk (Value.type "tuple") none (Data.seq #[] 0) #[])
noncomputable def o116 (p : Program) (P : Params) : Obj := (Obj.mk Value.none none (Data.func (fnD (a2 p 7 4) s247 s264 0 [] Value.none Value.none Value.none Value.none none Value.none Value.none 0)) #[])
noncomputable def o117 (p : Program) (P : Params) : Obj := (Obj.mk (Value.type "code") none (Data.fields #[(Value.str s247 401), (Value.str s264 402), (Value.str s176 403), (Value.int 50 0), (Value.int 1 0), (Value.int 0 0), (Value.int 0 0), (Value.int 3 0), (Value.ref 110), (Value.bool Bool.true), (Value.int 276 0), (Value.ref 111), Value.none, (Value.ref 112), (Value.ref 113), (Value.ref 114), (Value.int 408 0), (Value.int 50 0), (Value.str s176 409)]) #[])
noncomputable def o118 (p : Program) (P : Params) : Obj := (Obj.mk (Value.type "function") none (Data.func (fnD (a2 p 7 4) s247 s264 3 [] Value.none Value.none Value.none (Value.str s236 289) none (Value.ref 115) Value.none 0)) #[])
noncomputable def o119 (p : Program) (P : Params) : Obj := (Obj.mk (Value.type "tuple") none (Data.seq #[] 0) #[])
noncomputable def o120 (p : Program) (P : Params) : Obj := (Obj.mk Value.none none (Data.fields #[]) #[])
noncomputable def o121 (p : Program) (P : Params) : Obj := (Obj.mk (Value.type "tuple") none (Data.seq #[(Value.str s242 414)] 0) #[])
noncomputable def o122 (p : Program) (P : Params) : Obj := (Obj.mk (Value.type "tuple") none (Data.seq #[] 0) #[])
noncomputable def o123 (p : Program) (P : Params) : Obj := (Obj.mk Value.none none (Data.func (fnD (a2 p 7 5) s248 s265 0 [] Value.none Value.none Value.none Value.none none Value.none Value.none 0)) #[])
noncomputable def o124 (p : Program) (P : Params) : Obj := (Obj.mk (Value.type "code") none (Data.fields #[(Value.str s248 411), (Value.str s265 412), (Value.str s176 413), (Value.int 61 0), (Value.int 1 0), (Value.int 0 0), (Value.int 0 0), (Value.int 3 0), (Value.ref 117), (Value.bool Bool.true), (Value.int 276 0), (Value.ref 118), Value.none, (Value.ref 119), (Value.ref 120), (Value.ref 121), (Value.int 415 0), (Value.int 61 0), (Value.str s176 416)]) #[])
noncomputable def o125 (p : Program) (P : Params) : Obj := (Obj.mk (Value.type "function") none (Data.func (fnD (a2 p 7 5) s248 s265 3 [] Value.none Value.none Value.none (Value.str s236 289) none (Value.ref 122) Value.none 0)) #[])
noncomputable def o126 (p : Program) (P : Params) : Obj := (Obj.mk (Value.type "tuple") none (Data.seq #[] 0) #[])
noncomputable def o127 (p : Program) (P : Params) : Obj := (Obj.mk Value.none none (Data.fields #[]) #[])
noncomputable def o128 (p : Program) (P : Params) : Obj := (Obj.mk (Value.type "tuple") none (Data.seq #[(Value.str s242 421)] 0) #[])
noncomputable def o129 (p : Program) (P : Params) : Obj := (Obj.mk (Value.type "tuple") none (Data.seq #[] 0) #[])
noncomputable def o130 (p : Program) (P : Params) : Obj := (Obj.mk Value.none none (Data.func (fnD (a2 p 7 6) s249 s266 0 [] Value.none Value.none Value.none Value.none none Value.none Value.none 0)) #[])
noncomputable def o131 (p : Program) (P : Params) : Obj := (Obj.mk (Value.type "code") none (Data.fields #[(Value.str s249 418), (Value.str s266 419), (Value.str s176 420), (Value.int 66 0), (Value.int 1 0), (Value.int 0 0), (Value.int 0 0), (Value.int 3 0), (Value.ref 124), (Value.bool Bool.true), (Value.int 276 0), (Value.ref 125), Value.none, (Value.ref 126), (Value.ref 127), (Value.ref 128), (Value.int 422 0), (Value.int 66 0), (Value.str s176 423)]) #[])
noncomputable def o132 (p : Program) (P : Params) : Obj := (Obj.mk (Value.type "function") none (Data.func (fnD (a2 p 7 6) s249 s266 3 [] Value.none Value.none Value.none (Value.str s236 289) none (Value.ref 129) Value.none 0)) #[])
noncomputable def o133 (p : Program) (P : Params) : Obj := (Obj.mk (Value.type "tuple") none (Data.seq #[] 0) #[])
noncomputable def o134 (p : Program) (P : Params) : Obj := (Obj.mk Value.none none (Data.fields #[]) #[])
noncomputable def o135 (p : Program) (P : Params) : Obj := (Obj.mk (Value.type "tuple") none (Data.seq #[(Value.str s242 428), (Value.str s267 429), (Value.str s263 430), (Value.str s239 431), (Value.str s258 432), (Value.str s268 433), (Value.str s269 434), (Value.str s270 435)] 0) #[])
noncomputable def o136 (p : Program) (P : Params) : Obj := (Obj.mk (Value.type "tuple") none (Data.seq #[] 0) #[])
noncomputable def o137 (p : Program) (P : Params) : Obj := (Obj.mk Value.none none (Data.func (fnD (a2 p 7 7) s250 s271 0 [] Value.none Value.none Value.none Value.none none Value.none Value.none 0)) #[])
noncomputable def o138 (p : Program) (P : Params) : Obj := (Obj.mk (Value.type "code") none (Data.fields #[(Value.str s250 425), (Value.str s271 426), (Value.str s176 427), (Value.int 69 0), (Value.int 1 0), (Value.int 0 0), (Value.int 0 0), (Value.int 7 0), (Value.ref 131), (Value.bool Bool.true), (Value.int 276 0), (Value.ref 132), Value.none, (Value.ref 133), (Value.ref 134), (Value.ref 135), (Value.int 436 0), (Value.int 69 0), (Value.str s176 437)]) #[])
noncomputable def o139 (p : Program) (P : Params) : Obj := (Obj.mk (Value.type "function") none (Data.func (fnD (a2 p 7 7) s250 s271 3 [] Value.none Value.none Value.none (Value.str s236 289) none (Value.ref 136) Value.none 0)) #[])
noncomputable def o140 (p : Program) (P : Params) : Obj := (Obj.mk (Value.type "tuple") none (Data.seq #[] 0) #[])
noncomputable def o141 (p : Program) (P : Params) : Obj := (Obj.mk Value.none none (Data.fields #[]) #[])
noncomputable def o142 (p : Program) (P : Params) : Obj := (Obj.mk (Value.type "tuple") none (Data.seq #[(Value.str s242 442), (Value.str s263 443), (Value.str s272 444), (Value.str s273 445), (Value.str s274 446), (Value.str s275 447), (Value.str s239 448)] 0) #[])
noncomputable def o143 (p : Program) (P : Params) : Obj := (Obj.mk (Value.type "tuple") none (Data.seq #[] 0) #[])
noncomputable def o144 (p : Program) (P : Params) : Obj := (Obj.mk Value.none none (Data.func (fnD (a2 p 7 8) s251 s276 0 [] Value.none Value.none Value.none Value.none none Value.none Value.none 0)) #[])
noncomputable def o145 (p : Program) (P : Params) : Obj := (Obj.mk (Value.type "code") none (Data.fields #[(Value.str s251 439), (Value.str s276 440), (Value.str s176 441), (Value.int 92 0), (Value.int 1 0), (Value.int 0 0), (Value.int 0 0), (Value.int 3 0), (Value.ref 138), (Value.bool Bool.true), (Value.int 276 0), (Value.ref 139), Value.none, (Value.ref 140), (Value.ref 141), (Value.ref 142), (Value.int 449 0), (Value.int 92 0), (Value.str s176 450)]) #[])
noncomputable def o146 (p : Program) (P : Params) : Obj := (Obj.mk (Value.type "function") none (Data.func (fnD (a2 p 7 8) s251 s276 3 [] Value.none Value.none Value.none (Value.str s236 289) none (Value.ref 143) Value.none 0)) #[])
noncomputable def o147 (p : Program) (P : Params) : Obj := (Obj.mk (Value.type "tuple") none (Data.seq #[] 0) #[])
noncomputable def o148 (p : Program) (P : Params) : Obj := (Obj.mk Value.none none (Data.fields #[]) #[])
noncomputable def o149 (p : Program) (P : Params) : Obj := (Obj.mk (Value.type "tuple") none (Data.seq #[(Value.str s242 455)] 0) #[])
noncomputable def o150 (p : Program) (P : Params) : Obj := (Obj.mk (Value.type "tuple") none (Data.seq #[] 0) #[])
noncomputable def o151 (p : Program) (P : Params) : Obj := (Obj.mk Value.none none (Data.func (fnD (a2 p 7 9) s252 s277 0 [] Value.none Value.none Value.none Value.none none Value.none Value.none 0)) #[])
noncomputable def o152 (p : Program) (P : Params) : Obj := (Obj.mk (Value.type "code") none (Data.fields #[(Value.str s252 452), (Value.str s277 453), (Value.str s176 454), (Value.int 121 0), (Value.int 1 0), (Value.int 0 0), (Value.int 0 0), (Value.int 3 0), (Value.ref 145), (Value.bool Bool.true), (Value.int 276 0), (Value.ref 146), Value.none, (Value.ref 147), (Value.ref 148), (Value.ref 149), (Value.int 456 0), (Value.int 121 0), (Value.str s176 457)]) #[])
noncomputable def o153 (p : Program) (P : Params) : Obj := (Obj.mk (Value.type "function") none (Data.func (fnD (a2 p 7 9) s252 s277 3 [] Value.none Value.none Value.none (Value.str s236 289) none (Value.ref 150) Value.none 0)) #[])
noncomputable def o154 (p : Program) (P : Params) : Obj := (Obj.mk (Value.type "tuple") none (Data.seq #[(Value.str s278 459), (Value.str s279 460), (Value.str s280 461), (Value.str s281 462)] 0) #[])
noncomputable def o155 (p : Program) (P : Params) : Obj := (Obj.mk (Value.type "dict") none (Data.dict #[(DictEntry.mk (PyData.keyHash P s191) (Value.str s191 359) (Value.str s236 289)), (DictEntry.mk (PyData.keyHash P s193) (Value.str s193 363) (Value.int 17 362)), (DictEntry.mk (PyData.keyHash P s218) (Value.str s218 373) (Value.ref 90)), (DictEntry.mk (PyData.keyHash P s244) (Value.str s244 382) (Value.ref 97)), (DictEntry.mk (PyData.keyHash P s245) (Value.str s245 394) (Value.ref 104)), (DictEntry.mk (PyData.keyHash P s246) (Value.str s246 400) (Value.ref 109)), (DictEntry.mk (PyData.keyHash P s247) (Value.str s247 410) (Value.ref 116)), (DictEntry.mk (PyData.keyHash P s248) (Value.str s248 417) (Value.ref 123)), (DictEntry.mk (PyData.keyHash P s249) (Value.str s249 424) (Value.ref 130)), (DictEntry.mk (PyData.keyHash P s250) (Value.str s250 438) (Value.ref 137)), (DictEntry.mk (PyData.keyHash P s251) (Value.str s251 451) (Value.ref 144)), (DictEntry.mk (PyData.keyHash P s252) (Value.str s252 458) (Value.ref 151)), (DictEntry.mk (PyData.keyHash P s203) (Value.str s203 463) (Value.ref 152)), (DictEntry.mk (PyData.keyHash P s204) (Value.str s204 465) (Value.ref 155)), (DictEntry.mk (PyData.keyHash P s205) (Value.str s205 467) (Value.ref 156)), (DictEntry.mk (PyData.keyHash P s2) (Value.str s2 468) Value.none)] 4) #[])
noncomputable def o156 (p : Program) (P : Params) : Obj := (Obj.mk (Value.type "type") none (Data.cls (ClassData.mk s232 [(Value.type "object")] [(Value.ref 154), (Value.type "object")] 153 s232 Bool.true [] [] Bool.false none Bool.false)) #[none, none, (some (Value.str s232 352)), (some (Value.str s232 360)), (some (Value.builtin "object.__new__")), (some (Value.bool Bool.true))])
noncomputable def o157 (p : Program) (P : Params) : Obj := (Obj.mk (Value.type "getset_descriptor") none (Data.fields #[(Value.str s204 464), (Value.ref 154), (Value.builtin "function.__dict__"), (Value.builtin "function.__dict__#set")]) #[])
noncomputable def o158 (p : Program) (P : Params) : Obj := (Obj.mk (Value.type "getset_descriptor") none (Data.fields #[(Value.str s205 466), (Value.ref 154), (Value.builtin "ExceptionGroup.__weakref__"), Value.none]) #[])
noncomputable def o159 (p : Program) (P : Params) : Obj := (Obj.mk (Value.type "super") none (Data.fields #[(Value.ref 154), (Value.ref 154), (Value.ref 154)]) #[])
noncomputable def o160 (p : Program) (P : Params) : Obj := (Obj.mk (Value.type "builtin_function_or_method") none (Data.fields #[(Value.builtin "object.__init_subclass__"), (Value.ref 154)]) #[])
noncomputable def o161 (p : Program) (P : Params) : Obj := (Obj.mk (Value.type "list") none (Data.seq #[(Value.int 14 476), (Value.int 14 477), (Value.int 4 478), (Value.int 1 479), (Value.int 1 480), (Value.int 9 481), (Value.int 0 482), (Value.int 64 483), (Value.int 0 484), (Value.int 1342177280 485), (Value.int 0 486), (Value.int 0 487), (Value.int 0 488), (Value.int 0 489), (Value.int 0 490), (Value.int 17 491), (Value.int 0 492), (Value.int 13 493), (Value.int 11 494), (Value.int 9 495), (Value.int 0 496), (Value.int 64 497), (Value.int 0 498), (Value.int 1342177280 499), (Value.int 0 500), (Value.int 0 501), (Value.int 0 502), (Value.int 0 503), (Value.int 0 504), (Value.int 17 505), (Value.int 1 506), (Value.int 1 507)] 0) #[])
noncomputable def o162 (p : Program) (P : Params) : Obj := (Obj.mk (Value.type "dict") none (Data.dict #[] 0) #[])
noncomputable def o163 (p : Program) (P : Params) : Obj := (Obj.mk (Value.type "tuple") none (Data.seq #[Value.none, Value.none] 0) #[])
noncomputable def o164 (p : Program) (P : Params) : Obj := (Obj.mk (Value.type "tuple") none (Data.seq #[(Value.int 14 0), (Value.int 14 0), (Value.int 4 0), (Value.int 1 0), (Value.int 1 0), (Value.int 9 0), (Value.int 0 0), (Value.int 64 0), (Value.int 0 0), (Value.int 1342177280 0), (Value.int 0 0), (Value.int 0 0), (Value.int 0 0), (Value.int 0 0), (Value.int 0 0), (Value.int 17 0), (Value.int 0 0), (Value.int 13 0), (Value.int 11 0), (Value.int 9 0), (Value.int 0 0), (Value.int 64 0), (Value.int 0 0), (Value.int 1342177280 0), (Value.int 0 0), (Value.int 0 0), (Value.int 0 0), (Value.int 0 0), (Value.int 0 0), (Value.int 17 0), (Value.int 1 0), (Value.int 1 0)] 0) #[])
noncomputable def o165 (p : Program) (P : Params) : Obj := (Obj.mk (Value.type "re.Pattern") none (Data.fields #[(Value.str s282 474), (Value.int 32 509), (Value.int 1 0), Value.none, Value.none, (Value.ref 162), (Value.int 0 0)]) #[])
noncomputable def o166 (p : Program) (P : Params) : Obj := (Obj.mk (Value.type "tuple") none (Data.seq #[] 0) #[])
noncomputable def o167 (p : Program) (P : Params) : Obj := (Obj.mk Value.none none (Data.fields #[]) #[])
noncomputable def o168 (p : Program) (P : Params) : Obj := (Obj.mk (Value.type "tuple") none (Data.seq #[(Value.str s283 514), (Value.str s284 515), (Value.str s285 516)] 0) #[])
noncomputable def o169 (p : Program) (P : Params) : Obj := (Obj.mk (Value.type "tuple") none (Data.seq #[] 0) #[])
noncomputable def o170 (p : Program) (P : Params) : Obj := (Obj.mk Value.none none (Data.func (fnD (a1 p 10) s234 s234 0 [] Value.none Value.none Value.none Value.none none Value.none Value.none 0)) #[])
noncomputable def o171 (p : Program) (P : Params) : Obj := (Obj.mk (Value.type "code") none (Data.fields #[(Value.str s234 511), (Value.str s234 512), (Value.str s176 513), (Value.int 125 0), (Value.int 1 0), (Value.int 0 0), (Value.int 0 0), (Value.int 3 0), (Value.ref 164), (Value.bool Bool.true), (Value.int 276 0), (Value.ref 165), Value.none, (Value.ref 166), (Value.ref 167), (Value.ref 168), (Value.int 517 0), (Value.int 125 0), (Value.str s176 518)]) #[])
noncomputable def o172 (p : Program) (P : Params) : Obj := (Obj.mk (Value.type "function") none (Data.func (fnD (a1 p 10) s234 s234 3 [] Value.none Value.none Value.none (Value.str s286 471) none (Value.ref 169) Value.none 0)) #[])
noncomputable def tS11 (p : Program) (P : Params) : BT := (.node (o0 p P) (.node (o1 p P) (.node (o32 p P) (.node (o7 p P) (.node (o15 p P) (.node (o31 p P) (.node (o65 p P) (.node (o129 p P) .nil .nil) .nil) (.node (o97 p P) (.node (o161 p P) .nil .nil) .nil)) (.node (o49 p P) (.node (o81 p P) (.node (o145 p P) .nil .nil) .nil) (.node (o113 p P) .nil .nil))) (.node (o23 p P) (.node (o41 p P) (.node (o73 p P) (.node (o137 p P) .nil .nil) .nil) (.node (o105 p P) (.node (o169 p P) .nil .nil) .nil)) (.node (o57 p P) (.node (o89 p P) (.node (o153 p P) .nil .nil) .nil) (.node (o121 p P) .nil .nil)))) (.node (o11 p P) (.node (o19 p P) (.node (o37 p P) (.node (o69 p P) (.node (o133 p P) .nil .nil) .nil) (.node (o101 p P) (.node (o165 p P) .nil .nil) .nil)) (.node (o53 p P) (.node (o85 p P) (.node (o149 p P) .nil .nil) .nil) (.node (o117 p P) .nil .nil))) (.node (o27 p P) (.node (o45 p P) (.node (o77 p P) (.node (o141 p P) .nil .nil) .nil) (.node (o109 p P) .nil .nil)) (.node (o61 p P) (.node (o93 p P) (.node (o157 p P) .nil .nil) .nil) (.node (o125 p P) .nil .nil))))) (.node (o5 p P) (.node (o9 p P) (.node (o17 p P) (.node (o35 p P) (.node (o67 p P) (.node (o131 p P) .nil .nil) .nil) (.node (o99 p P) (.node (o163 p P) .nil .nil) .nil)) (.node (o51 p P) (.node (o83 p P) (.node (o147 p P) .nil .nil) .nil) (.node (o115 p P) .nil .nil))) (.node (o25 p P) (.node (o43 p P) (.node (o75 p P) (.node (o139 p P) .nil .nil) .nil) (.node (o107 p P) (.node (o171 p P) .nil .nil) .nil)) (.node (o59 p P) (.node (o91 p P) (.node (o155 p P) .nil .nil) .nil) (.node (o123 p P) .nil .nil)))) (.node (o13 p P) (.node (o21 p P) (.node (o39 p P) (.node (o71 p P) (.node (o135 p P) .nil .nil) .nil) (.node (o103 p P) (.node (o167 p P) .nil .nil) .nil)) (.node (o55 p P) (.node (o87 p P) (.node (o151 p P) .nil .nil) .nil) (.node (o119 p P) .nil .nil))) (.node (o33 p P) (.node (o47 p P) (.node (o79 p P) (.node (o143 p P) .nil .nil) .nil) (.node (o111 p P) .nil .nil)) (.node (o63 p P) (.node (o95 p P) (.node (o159 p P) .nil .nil) .nil) (.node (o127 p P) .nil .nil)))))) (.node (o2 p P) (.node (o4 p P) (.node (o8 p P) (.node (o16 p P) (.node (o34 p P) (.node (o66 p P) (.node (o130 p P) .nil .nil) .nil) (.node (o98 p P) (.node (o162 p P) .nil .nil) .nil)) (.node (o50 p P) (.node (o82 p P) (.node (o146 p P) .nil .nil) .nil) (.node (o114 p P) .nil .nil))) (.node (o24 p P) (.node (o42 p P) (.node (o74 p P) (.node (o138 p P) .nil .nil) .nil) (.node (o106 p P) (.node (o170 p P) .nil .nil) .nil)) (.node (o58 p P) (.node (o90 p P) (.node (o154 p P) .nil .nil) .nil) (.node (o122 p P) .nil .nil)))) (.node (o12 p P) (.node (o20 p P) (.node (o38 p P) (.node (o70 p P) (.node (o134 p P) .nil .nil) .nil) (.node (o102 p P) (.node (o166 p P) .nil .nil) .nil)) (.node (o54 p P) (.node (o86 p P) (.node (o150 p P) .nil .nil) .nil) (.node (o118 p P) .nil .nil))) (.node (o28 p P) (.node (o46 p P) (.node (o78 p P) (.node (o142 p P) .nil .nil) .nil) (.node (o110 p P) .nil .nil)) (.node (o62 p P) (.node (o94 p P) (.node (o158 p P) .nil .nil) .nil) (.node (o126 p P) .nil .nil))))) (.node (o6 p P) (.node (o10 p P) (.node (o18 p P) (.node (o36 p P) (.node (o68 p P) (.node (o132 p P) .nil .nil) .nil) (.node (o100 p P) (.node (o164 p P) .nil .nil) .nil)) (.node (o52 p P) (.node (o84 p P) (.node (o148 p P) .nil .nil) .nil) (.node (o116 p P) .nil .nil))) (.node (o26 p P) (.node (o44 p P) (.node (o76 p P) (.node (o140 p P) .nil .nil) .nil) (.node (o108 p P) (.node (o172 p P) .nil .nil) .nil)) (.node (o60 p P) (.node (o92 p P) (.node (o156 p P) .nil .nil) .nil) (.node (o124 p P) .nil .nil)))) (.node (o14 p P) (.node (o22 p P) (.node (o40 p P) (.node (o72 p P) (.node (o136 p P) .nil .nil) .nil) (.node (o104 p P) (.node (o168 p P) .nil .nil) .nil)) (.node (o56 p P) (.node (o88 p P) (.node (o152 p P) .nil .nil) .nil) (.node (o120 p P) .nil .nil))) (.node (o30 p P) (.node (o48 p P) (.node (o80 p P) (.node (o144 p P) .nil .nil) .nil) (.node (o112 p P) .nil .nil)) (.node (o64 p P) (.node (o96 p P) (.node (o160 p P) .nil .nil) .nil) (.node (o128 p P) .nil .nil)))))))
noncomputable def S11T (p : Program) (w : World) (os : OsState) : SharedT := SharedT.mk (tS11 p w.params) 171 (Life.mk [] [] [] 0 [] [] Bool.false #[] [] 0 Bool.false Bool.false Bool.false 0 [2000, 10, 10] Bool.false 0 Bool.true [] [] 0 Bool.false) #[] (Drawn.mk 0 0 0 0) 522 os
noncomputable def S11pos : Pos := (Pos.mk 129 0 129 8)
noncomputable def o173 (p : Program) (P : Params) : Obj := (Obj.mk (Value.type "dict") none (Data.dict #[(DictEntry.mk (PyData.keyHash P s0) (Value.str s0 165) (Value.str s286 675)), (DictEntry.mk (PyData.keyHash P s2) (Value.str s2 166) Value.none), (DictEntry.mk (PyData.keyHash P s3) (Value.str s3 167) Value.none), (DictEntry.mk (PyData.keyHash P s4) (Value.str s4 168) (Value.builtin "__main__.__loader__#opaque")), (DictEntry.mk (PyData.keyHash P s5) (Value.str s5 169) Value.none), (DictEntry.mk (PyData.keyHash P s173) (Value.str s173 170) (Value.ref 6)), (DictEntry.mk (PyData.keyHash P s174) (Value.str s174 171) (Value.ref 4)), (DictEntry.mk (PyData.keyHash P s175) (Value.str s175 173) (Value.str s176 172)), (DictEntry.mk (PyData.keyHash P s177) (Value.str s177 174) Value.none), (DictEntry.mk (PyData.keyHash P s161) (Value.str s161 275) (Value.ref 12)), (DictEntry.mk (PyData.keyHash P s227) (Value.str s227 288) (Value.ref 38)), (DictEntry.mk (PyData.keyHash P s228) (Value.str s228 293) (Value.int (-1) 292)), (DictEntry.mk (PyData.keyHash P s229) (Value.str s229 296) (Value.int (-2) 295)), (DictEntry.mk (PyData.keyHash P s230) (Value.str s230 333) (Value.ref 57)), (DictEntry.mk (PyData.keyHash P s231) (Value.str s231 351) (Value.ref 72)), (DictEntry.mk (PyData.keyHash P s232) (Value.str s232 470) (Value.ref 154)), (DictEntry.mk (PyData.keyHash P s233) (Value.str s233 510) (Value.ref 163)), (DictEntry.mk (PyData.keyHash P s234) (Value.str s234 519) (Value.ref 170)), (DictEntry.mk (PyData.keyHash P s287) (Value.str s287 667) (Value.ref 172)), (DictEntry.mk (PyData.keyHash P s288) (Value.str s288 674) (Value.ref 182))] 20) #[])
noncomputable def o174 (p : Program) (P : Params) : Obj := (Obj.mk Value.none none (Data.fields #[(Value.int 2 0), (Value.int 0 0), (Value.ref 37), (Value.int 8 0), (Value.int 0 0), (Value.ref 44), (Value.int 15 0), (Value.int 0 0), (Value.ref 68), (Value.int 17 0), (Value.int 0 0), (Value.ref 81), (Value.int 125 0), (Value.int 0 0), (Value.ref 169), (Value.int 131 0), (Value.int 0 0), (Value.ref 181)]) #[])
noncomputable def o175 (p : Program) (P : Params) : Obj := (Obj.mk (Value.type "bytes_iterator") none (Data.fields #[Value.none, (Value.int 24 0)]) #[])
noncomputable def o176 (p : Program) (P : Params) : Obj := (Obj.mk (Value.type "dict") none (Data.dict #[(DictEntry.mk 40 (Value.int 40 523) (Value.str s289 527)), (DictEntry.mk 41 (Value.int 41 529) (Value.str s290 533)), (DictEntry.mk 91 (Value.int 91 535) (Value.str s291 539)), (DictEntry.mk 93 (Value.int 93 541) (Value.str s292 545)), (DictEntry.mk 123 (Value.int 123 547) (Value.str s293 551)), (DictEntry.mk 125 (Value.int 125 553) (Value.str s294 557)), (DictEntry.mk 63 (Value.int 63 559) (Value.str s295 563)), (DictEntry.mk 42 (Value.int 42 565) (Value.str s296 569)), (DictEntry.mk 43 (Value.int 43 571) (Value.str s297 575)), (DictEntry.mk 45 (Value.int 45 577) (Value.str s298 581)), (DictEntry.mk 124 (Value.int 124 583) (Value.str s299 587)), (DictEntry.mk 94 (Value.int 94 589) (Value.str s300 593)), (DictEntry.mk 36 (Value.int 36 595) (Value.str s301 599)), (DictEntry.mk 92 (Value.int 92 601) (Value.str s302 605)), (DictEntry.mk 46 (Value.int 46 607) (Value.str s303 611)), (DictEntry.mk 38 (Value.int 38 613) (Value.str s304 617)), (DictEntry.mk 126 (Value.int 126 619) (Value.str s305 623)), (DictEntry.mk 35 (Value.int 35 625) (Value.str s306 629)), (DictEntry.mk 32 (Value.int 32 631) (Value.str s307 635)), (DictEntry.mk 9 (Value.int 9 637) (Value.str s308 641)), (DictEntry.mk 10 (Value.int 10 643) (Value.str s309 647)), (DictEntry.mk 13 (Value.int 13 649) (Value.str s310 653)), (DictEntry.mk 11 (Value.int 11 655) (Value.str s311 659)), (DictEntry.mk 12 (Value.int 12 661) (Value.str s312 665))] 24) #[])
noncomputable def o177 (p : Program) (P : Params) : Obj := (Obj.mk (Value.type "dict") none (Data.dict #[] 2) #[])
noncomputable def o178 (p : Program) (P : Params) : Obj := (Obj.mk (Value.type "tuple") none (Data.seq #[] 0) #[])
noncomputable def o179 (p : Program) (P : Params) : Obj := (Obj.mk (Value.type "StopIteration") none (Data.fields #[(Value.ref 174), Value.none, Value.none, Value.none, (Value.bool Bool.false), Value.none]) #[])
noncomputable def o180 (p : Program) (P : Params) : Obj := (Obj.mk (Value.type "tuple") none (Data.seq #[] 0) #[])
noncomputable def o181 (p : Program) (P : Params) : Obj := (Obj.mk Value.none none (Data.fields #[]) #[])
noncomputable def o182 (p : Program) (P : Params) : Obj := (Obj.mk (Value.type "tuple") none (Data.seq #[(Value.str s313 671)] 0) #[])
noncomputable def o183 (p : Program) (P : Params) : Obj := (Obj.mk (Value.type "tuple") none (Data.seq #[] 0) #[])
noncomputable def o184 (p : Program) (P : Params) : Obj := (Obj.mk Value.none none (Data.func (fnD (a1 p 13) s288 s288 0 [] Value.none Value.none Value.none Value.none none Value.none Value.none 0)) #[])
noncomputable def o185 (p : Program) (P : Params) : Obj := (Obj.mk (Value.type "code") none (Data.fields #[(Value.str s288 668), (Value.str s288 669), (Value.str s176 670), (Value.int 131 0), (Value.int 1 0), (Value.int 0 0), (Value.int 0 0), (Value.int 3 0), (Value.ref 176), (Value.bool Bool.true), (Value.int 276 0), (Value.ref 177), Value.none, (Value.ref 178), (Value.ref 179), (Value.ref 180), (Value.int 672 0), (Value.int 131 0), (Value.str s176 673)]) #[])
noncomputable def o186 (p : Program) (P : Params) : Obj := (Obj.mk (Value.type "function") none (Data.func (fnD (a1 p 13) s288 s288 3 [] Value.none Value.none Value.none (Value.str s226 520) none (Value.ref 181) Value.none 0)) #[])
noncomputable def tS14 (p : Program) (P : Params) : BT := (.node (o0 p P) (.node (o1 p P) (.node (o173 p P) (.node (o7 p P) (.node (o15 p P) (.node (o31 p P) (.node (o65 p P) (.node (o129 p P) .nil .nil) .nil) (.node (o97 p P) (.node (o161 p P) .nil .nil) .nil)) (.node (o49 p P) (.node (o81 p P) (.node (o145 p P) .nil .nil) .nil) (.node (o113 p P) (.node (o179 p P) .nil .nil) .nil))) (.node (o23 p P) (.node (o41 p P) (.node (o73 p P) (.node (o137 p P) .nil .nil) .nil) (.node (o105 p P) (.node (o169 p P) .nil .nil) .nil)) (.node (o57 p P) (.node (o89 p P) (.node (o153 p P) .nil .nil) .nil) (.node (o121 p P) .nil .nil)))) (.node (o11 p P) (.node (o19 p P) (.node (o37 p P) (.node (o69 p P) (.node (o133 p P) .nil .nil) .nil) (.node (o101 p P) (.node (o165 p P) .nil .nil) .nil)) (.node (o53 p P) (.node (o85 p P) (.node (o149 p P) .nil .nil) .nil) (.node (o117 p P) (.node (o183 p P) .nil .nil) .nil))) (.node (o27 p P) (.node (o45 p P) (.node (o77 p P) (.node (o141 p P) .nil .nil) .nil) (.node (o109 p P) (.node (o175 p P) .nil .nil) .nil)) (.node (o61 p P) (.node (o93 p P) (.node (o157 p P) .nil .nil) .nil) (.node (o125 p P) .nil .nil))))) (.node (o5 p P) (.node (o9 p P) (.node (o17 p P) (.node (o35 p P) (.node (o67 p P) (.node (o131 p P) .nil .nil) .nil) (.node (o99 p P) (.node (o163 p P) .nil .nil) .nil)) (.node (o51 p P) (.node (o83 p P) (.node (o147 p P) .nil .nil) .nil) (.node (o115 p P) (.node (o181 p P) .nil .nil) .nil))) (.node (o25 p P) (.node (o43 p P) (.node (o75 p P) (.node (o139 p P) .nil .nil) .nil) (.node (o107 p P) (.node (o171 p P) .nil .nil) .nil)) (.node (o59 p P) (.node (o91 p P) (.node (o155 p P) .nil .nil) .nil) (.node (o123 p P) .nil .nil)))) (.node (o13 p P) (.node (o21 p P) (.node (o39 p P) (.node (o71 p P) (.node (o135 p P) .nil .nil) .nil) (.node (o103 p P) (.node (o167 p P) .nil .nil) .nil)) (.node (o55 p P) (.node (o87 p P) (.node (o151 p P) .nil .nil) .nil) (.node (o119 p P) (.node (o185 p P) .nil .nil) .nil))) (.node (o174 p P) (.node (o47 p P) (.node (o79 p P) (.node (o143 p P) .nil .nil) .nil) (.node (o111 p P) (.node (o177 p P) .nil .nil) .nil)) (.node (o63 p P) (.node (o95 p P) (.node (o159 p P) .nil .nil) .nil) (.node (o127 p P) .nil .nil)))))) (.node (o2 p P) (.node (o4 p P) (.node (o8 p P) (.node (o16 p P) (.node (o34 p P) (.node (o66 p P) (.node (o130 p P) .nil .nil) .nil) (.node (o98 p P) (.node (o162 p P) .nil .nil) .nil)) (.node (o50 p P) (.node (o82 p P) (.node (o146 p P) .nil .nil) .nil) (.node (o114 p P) (.node (o180 p P) .nil .nil) .nil))) (.node (o24 p P) (.node (o42 p P) (.node (o74 p P) (.node (o138 p P) .nil .nil) .nil) (.node (o106 p P) (.node (o170 p P) .nil .nil) .nil)) (.node (o58 p P) (.node (o90 p P) (.node (o154 p P) .nil .nil) .nil) (.node (o122 p P) .nil .nil)))) (.node (o12 p P) (.node (o20 p P) (.node (o38 p P) (.node (o70 p P) (.node (o134 p P) .nil .nil) .nil) (.node (o102 p P) (.node (o166 p P) .nil .nil) .nil)) (.node (o54 p P) (.node (o86 p P) (.node (o150 p P) .nil .nil) .nil) (.node (o118 p P) (.node (o184 p P) .nil .nil) .nil))) (.node (o28 p P) (.node (o46 p P) (.node (o78 p P) (.node (o142 p P) .nil .nil) .nil) (.node (o110 p P) (.node (o176 p P) .nil .nil) .nil)) (.node (o62 p P) (.node (o94 p P) (.node (o158 p P) .nil .nil) .nil) (.node (o126 p P) .nil .nil))))) (.node (o6 p P) (.node (o10 p P) (.node (o18 p P) (.node (o36 p P) (.node (o68 p P) (.node (o132 p P) .nil .nil) .nil) (.node (o100 p P) (.node (o164 p P) .nil .nil) .nil)) (.node (o52 p P) (.node (o84 p P) (.node (o148 p P) .nil .nil) .nil) (.node (o116 p P) (.node (o182 p P) .nil .nil) .nil))) (.node (o26 p P) (.node (o44 p P) (.node (o76 p P) (.node (o140 p P) .nil .nil) .nil) (.node (o108 p P) (.node (o172 p P) .nil .nil) .nil)) (.node (o60 p P) (.node (o92 p P) (.node (o156 p P) .nil .nil) .nil) (.node (o124 p P) .nil .nil)))) (.node (o14 p P) (.node (o22 p P) (.node (o40 p P) (.node (o72 p P) (.node (o136 p P) .nil .nil) .nil) (.node (o104 p P) (.node (o168 p P) .nil .nil) .nil)) (.node (o56 p P) (.node (o88 p P) (.node (o152 p P) .nil .nil) .nil) (.node (o120 p P) (.node (o186 p P) .nil .nil) .nil))) (.node (o30 p P) (.node (o48 p P) (.node (o80 p P) (.node (o144 p P) .nil .nil) .nil) (.node (o112 p P) (.node (o178 p P) .nil .nil) .nil)) (.node (o64 p P) (.node (o96 p P) (.node (o160 p P) .nil .nil) .nil) (.node (o128 p P) .nil .nil)))))))
noncomputable def S14T (p : Program) (w : World) (os : OsState) : SharedT := SharedT.mk (tS14 p w.params) 183 (Life.mk [] [] [] 0 [] [] Bool.false #[] [] 0 Bool.false Bool.false Bool.false 0 [2000, 10, 10] Bool.false 0 Bool.true [] [] 0 Bool.false) #[] (Drawn.mk 0 0 0 0) 677 os
noncomputable def S14pos : Pos := (Pos.mk 137 0 137 8)
noncomputable def o187 (p : Program) (P : Params) : Obj := (Obj.mk Value.none none (Data.dict #[(DictEntry.mk (PyData.keyHash P s162) (Value.str s162 183) (Value.bool Bool.true)), (DictEntry.mk (PyData.keyHash P s163) (Value.str s163 185) (Value.ref 14)), (DictEntry.mk (PyData.keyHash P s164) (Value.str s164 206) (Value.ref 18)), (DictEntry.mk (PyData.keyHash P s165) (Value.str s165 216) (Value.ref 22)), (DictEntry.mk (PyData.keyHash P s166) (Value.str s166 245) (Value.int 3 0)), (DictEntry.mk (PyData.keyHash P s167) (Value.str s167 270) (Value.bool Bool.true)), (DictEntry.mk (PyData.keyHash P s168) (Value.str s168 272) (Value.ref 27)), (DictEntry.mk (PyData.keyHash P s169) (Value.str s169 0) (Value.str s170 0)), (DictEntry.mk (PyData.keyHash P s171) (Value.str s171 273) (Value.str s172 0)), (DictEntry.mk (PyData.keyHash P s314) (Value.str s314 727) (Value.int 206 0)), (DictEntry.mk (PyData.keyHash P s315) (Value.str s315 728) (Value.int 1 0))] 11) #[])
noncomputable def o188 (p : Program) (P : Params) : Obj := (Obj.mk (Value.type "dict") none (Data.dict #[(DictEntry.mk (PyData.keyHash P s0) (Value.str s0 165) (Value.str s316 758)), (DictEntry.mk (PyData.keyHash P s2) (Value.str s2 166) Value.none), (DictEntry.mk (PyData.keyHash P s3) (Value.str s3 167) Value.none), (DictEntry.mk (PyData.keyHash P s4) (Value.str s4 168) (Value.builtin "__main__.__loader__#opaque")), (DictEntry.mk (PyData.keyHash P s5) (Value.str s5 169) Value.none), (DictEntry.mk (PyData.keyHash P s173) (Value.str s173 170) (Value.ref 6)), (DictEntry.mk (PyData.keyHash P s174) (Value.str s174 171) (Value.ref 4)), (DictEntry.mk (PyData.keyHash P s175) (Value.str s175 173) (Value.str s176 172)), (DictEntry.mk (PyData.keyHash P s177) (Value.str s177 174) Value.none), (DictEntry.mk (PyData.keyHash P s161) (Value.str s161 275) (Value.ref 12)), (DictEntry.mk (PyData.keyHash P s227) (Value.str s227 288) (Value.ref 38)), (DictEntry.mk (PyData.keyHash P s228) (Value.str s228 293) (Value.int (-1) 292)), (DictEntry.mk (PyData.keyHash P s229) (Value.str s229 296) (Value.int (-2) 295)), (DictEntry.mk (PyData.keyHash P s230) (Value.str s230 333) (Value.ref 57)), (DictEntry.mk (PyData.keyHash P s231) (Value.str s231 351) (Value.ref 72)), (DictEntry.mk (PyData.keyHash P s232) (Value.str s232 470) (Value.ref 154)), (DictEntry.mk (PyData.keyHash P s233) (Value.str s233 510) (Value.ref 163)), (DictEntry.mk (PyData.keyHash P s234) (Value.str s234 519) (Value.ref 170)), (DictEntry.mk (PyData.keyHash P s287) (Value.str s287 667) (Value.ref 172)), (DictEntry.mk (PyData.keyHash P s288) (Value.str s288 674) (Value.ref 182)), (DictEntry.mk (PyData.keyHash P s317) (Value.str s317 695) (Value.ref 189)), (DictEntry.mk (PyData.keyHash P s318) (Value.str s318 708) (Value.ref 196)), (DictEntry.mk (PyData.keyHash P s319) (Value.str s319 730) (Value.ref 206)), (DictEntry.mk (PyData.keyHash P s320) (Value.str s320 746) (Value.ref 219)), (DictEntry.mk (PyData.keyHash P s321) (Value.str s321 757) (Value.ref 228)), (DictEntry.mk (PyData.keyHash P s322) (Value.str s322 761) (Value.str s323 760)), (DictEntry.mk (PyData.keyHash P s324) (Value.str s324 767) (Value.ref 235)), (DictEntry.mk (PyData.keyHash P s325) (Value.str s325 775) (Value.ref 242)), (DictEntry.mk (PyData.keyHash P s326) (Value.str s326 781) (Value.ref 247)), (DictEntry.mk (PyData.keyHash P s327) (Value.str s327 787) (Value.ref 252)), (DictEntry.mk (PyData.keyHash P s328) (Value.str s328 793) (Value.ref 257)), (DictEntry.mk (PyData.keyHash P s329) (Value.str s329 799) (Value.ref 262))] 32) #[])
noncomputable def o189 (p : Program) (P : Params) : Obj := (Obj.mk Value.none none (Data.fields #[(Value.int 2 0), (Value.int 0 0), (Value.ref 37), (Value.int 8 0), (Value.int 0 0), (Value.ref 44), (Value.int 15 0), (Value.int 0 0), (Value.ref 68), (Value.int 17 0), (Value.int 0 0), (Value.ref 81), (Value.int 125 0), (Value.int 0 0), (Value.ref 169), (Value.int 131 0), (Value.int 0 0), (Value.ref 181), (Value.int 138 0), (Value.int 0 0), (Value.ref 188), (Value.int 200 0), (Value.int 0 0), (Value.ref 195), (Value.int 228 0), (Value.int 0 0), (Value.ref 202), (Value.int 230 0), (Value.int 0 0), (Value.ref 215), (Value.int 232 0), (Value.int 0 0), (Value.ref 227), (Value.int 251 0), (Value.int 0 0), (Value.ref 234), (Value.int 253 0), (Value.int 0 0), (Value.ref 241), (Value.int 256 0), (Value.int 0 0), (Value.ref 246), (Value.int 262 0), (Value.int 0 0), (Value.ref 251), (Value.int 288 0), (Value.int 0 0), (Value.ref 256), (Value.int 304 0), (Value.int 0 0), (Value.ref 261)]) #[])
noncomputable def o190 (p : Program) (P : Params) : Obj := (Obj.mk (Value.type "tuple") none (Data.seq #[] 0) #[])
noncomputable def o191 (p : Program) (P : Params) : Obj := (Obj.mk Value.none none (Data.fields #[]) #[])
noncomputable def o192 (p : Program) (P : Params) : Obj := (Obj.mk (Value.type "tuple") none (Data.seq #[(Value.str s283 680), (Value.str s284 681), (Value.str s330 682), (Value.str s331 683), (Value.str s245 684), (Value.str s332 685), (Value.str s333 686), (Value.str s334 687), (Value.str s335 688), (Value.str s336 689), (Value.str s337 690), (Value.str s235 691), (Value.str s338 692)] 0) #[])
noncomputable def o193 (p : Program) (P : Params) : Obj := (Obj.mk (Value.type "tuple") none (Data.seq #[] 0) #[])
noncomputable def o194 (p : Program) (P : Params) : Obj := (Obj.mk Value.none none (Data.func (fnD (a1 p 15) s317 s317 0 [] Value.none Value.none Value.none Value.none none Value.none Value.none 0)) #[])
noncomputable def o195 (p : Program) (P : Params) : Obj := (Obj.mk (Value.type "code") none (Data.fields #[(Value.str s317 677), (Value.str s317 678), (Value.str s176 679), (Value.int 138 0), (Value.int 3 0), (Value.int 0 0), (Value.int 0 0), (Value.int 3 0), (Value.ref 183), (Value.bool Bool.true), (Value.int 276 0), (Value.ref 184), Value.none, (Value.ref 185), (Value.ref 186), (Value.ref 187), (Value.int 693 0), (Value.int 138 0), (Value.str s176 694)]) #[])
noncomputable def o196 (p : Program) (P : Params) : Obj := (Obj.mk (Value.type "function") none (Data.func (fnD (a1 p 15) s317 s317 3 [] Value.none Value.none Value.none (Value.str s286 675) none (Value.ref 188) Value.none 0)) #[])
noncomputable def o197 (p : Program) (P : Params) : Obj := (Obj.mk (Value.type "tuple") none (Data.seq #[] 0) #[])
noncomputable def o198 (p : Program) (P : Params) : Obj := (Obj.mk Value.none none (Data.fields #[]) #[])
noncomputable def o199 (p : Program) (P : Params) : Obj := (Obj.mk (Value.type "tuple") none (Data.seq #[(Value.str s339 699), (Value.str s284 700), (Value.str s331 701), (Value.str s245 702), (Value.str s332 703), (Value.str s333 704), (Value.str s340 705)] 0) #[])
noncomputable def o200 (p : Program) (P : Params) : Obj := (Obj.mk (Value.type "tuple") none (Data.seq #[] 0) #[])
noncomputable def o201 (p : Program) (P : Params) : Obj := (Obj.mk Value.none none (Data.func (fnD (a1 p 16) s318 s318 0 [] Value.none Value.none Value.none Value.none none Value.none Value.none 0)) #[])
noncomputable def o202 (p : Program) (P : Params) : Obj := (Obj.mk (Value.type "code") none (Data.fields #[(Value.str s318 696), (Value.str s318 697), (Value.str s176 698), (Value.int 200 0), (Value.int 2 0), (Value.int 0 0), (Value.int 0 0), (Value.int 3 0), (Value.ref 190), (Value.bool Bool.true), (Value.int 276 0), (Value.ref 191), Value.none, (Value.ref 192), (Value.ref 193), (Value.ref 194), (Value.int 706 0), (Value.int 200 0), (Value.str s176 707)]) #[])
noncomputable def o203 (p : Program) (P : Params) : Obj := (Obj.mk (Value.type "function") none (Data.func (fnD (a1 p 16) s318 s318 3 [] Value.none Value.none Value.none (Value.str s286 675) none (Value.ref 195) Value.none 0)) #[])
noncomputable def o204 (p : Program) (P : Params) : Obj := (Obj.mk (Value.type "tuple") none (Data.seq #[(Value.type "Exception")] 0) #[])
noncomputable def o205 (p : Program) (P : Params) : Obj := (Obj.mk (Value.type "builtin_function_or_method") none (Data.fields #[(Value.builtin "type.__prepare__"), (Value.type "type")]) #[])
noncomputable def o206 (p : Program) (P : Params) : Obj := (Obj.mk (Value.type "dict") none (Data.dict #[(DictEntry.mk (PyData.keyHash P s191) (Value.str s191 718) (Value.str s341 709)), (DictEntry.mk (PyData.keyHash P s237) (Value.str s237 720) (Value.str s319 719)), (DictEntry.mk (PyData.keyHash P s193) (Value.str s193 722) (Value.int 228 721)), (DictEntry.mk (PyData.keyHash P s203) (Value.str s203 723) (Value.ref 204))] 4) #[])
noncomputable def o207 (p : Program) (P : Params) : Obj := (Obj.mk (Value.type "tuple") none (Data.seq #[] 0) #[])
noncomputable def o208 (p : Program) (P : Params) : Obj := (Obj.mk Value.none none (Data.fields #[]) #[])
noncomputable def o209 (p : Program) (P : Params) : Obj := (Obj.mk (Value.type "code") none (Data.fields #[(Value.str s319 713), (Value.str s319 714), (Value.str s176 715), (Value.int 228 0), (Value.int 0 0), (Value.int 0 0), (Value.int 0 0), (Value.int 0 0), (Value.ref 200), (Value.bool Bool.false), (Value.int 276 0), (Value.ref 201), Value.none, Value.none, Value.none, Value.none, (Value.int 716 0), (Value.int 228 0), (Value.str s176 717)]) #[])
noncomputable def o210 (p : Program) (P : Params) : Obj := (Obj.mk (Value.type "frame") none Data.plain #[(some (Value.ref 202)), (some (Value.ref 3)), (some (Value.ref 199)), none, (some (Value.str s341 709)), none, (some (Value.ref 0))])
noncomputable def o211 (p : Program) (P : Params) : Obj := (Obj.mk (Value.type "tuple") none (Data.seq #[] 0) #[])
noncomputable def o212 (p : Program) (P : Params) : Obj := (Obj.mk (Value.type "dict") none (Data.dict #[(DictEntry.mk (PyData.keyHash P s191) (Value.str s191 718) (Value.str s341 709)), (DictEntry.mk (PyData.keyHash P s193) (Value.str s193 722) (Value.int 228 721)), (DictEntry.mk (PyData.keyHash P s203) (Value.str s203 723) (Value.ref 204)), (DictEntry.mk (PyData.keyHash P s205) (Value.str s205 725) (Value.ref 207)), (DictEntry.mk (PyData.keyHash P s2) (Value.str s2 726) Value.none)] 3) #[])
noncomputable def o213 (p : Program) (P : Params) : Obj := (Obj.mk (Value.type "type") none (Data.cls (ClassData.mk s319 [(Value.type "Exception")] [(Value.ref 206), (Value.type "Exception"), (Value.type "BaseException"), (Value.type "object")] 205 s319 Bool.true [] [(Value.ref 219)] Bool.false none Bool.false)) #[(some (Value.ref 197)), none, (some (Value.str s319 711)), (some (Value.str s319 719)), (some (Value.builtin "Exception.__new__")), (some (Value.bool Bool.true))])
noncomputable def o214 (p : Program) (P : Params) : Obj := (Obj.mk (Value.type "getset_descriptor") none (Data.fields #[(Value.str s205 724), (Value.ref 206), (Value.builtin "ExceptionGroup.__weakref__"), Value.none]) #[])
noncomputable def o215 (p : Program) (P : Params) : Obj := (Obj.mk (Value.type "super") none (Data.fields #[(Value.ref 206), (Value.ref 206), (Value.ref 206)]) #[])
noncomputable def o216 (p : Program) (P : Params) : Obj := (Obj.mk (Value.type "builtin_function_or_method") none (Data.fields #[(Value.builtin "object.__init_subclass__"), (Value.ref 206)]) #[])
noncomputable def o217 (p : Program) (P : Params) : Obj := (Obj.mk (Value.type "tuple") none (Data.seq #[(Value.ref 206)] 0) #[])
noncomputable def o218 (p : Program) (P : Params) : Obj := (Obj.mk (Value.type "builtin_function_or_method") none (Data.fields #[(Value.builtin "type.__prepare__"), (Value.type "type")]) #[])
noncomputable def o219 (p : Program) (P : Params) : Obj := (Obj.mk (Value.type "dict") none (Data.dict #[(DictEntry.mk (PyData.keyHash P s191) (Value.str s191 738) (Value.str s341 709)), (DictEntry.mk (PyData.keyHash P s237) (Value.str s237 740) (Value.str s320 739)), (DictEntry.mk (PyData.keyHash P s193) (Value.str s193 742) (Value.int 230 741)), (DictEntry.mk (PyData.keyHash P s203) (Value.str s203 743) (Value.ref 217))] 4) #[])
noncomputable def o220 (p : Program) (P : Params) : Obj := (Obj.mk (Value.type "tuple") none (Data.seq #[] 0) #[])
noncomputable def o221 (p : Program) (P : Params) : Obj := (Obj.mk Value.none none (Data.fields #[]) #[])
noncomputable def o222 (p : Program) (P : Params) : Obj := (Obj.mk (Value.type "code") none (Data.fields #[(Value.str s320 733), (Value.str s320 734), (Value.str s176 735), (Value.int 230 0), (Value.int 0 0), (Value.int 0 0), (Value.int 0 0), (Value.int 0 0), (Value.ref 213), (Value.bool Bool.false), (Value.int 276 0), (Value.ref 214), Value.none, Value.none, Value.none, Value.none, (Value.int 736 0), (Value.int 230 0), (Value.str s176 737)]) #[])
noncomputable def o223 (p : Program) (P : Params) : Obj := (Obj.mk (Value.type "frame") none Data.plain #[(some (Value.ref 215)), (some (Value.ref 3)), (some (Value.ref 212)), none, (some (Value.str s341 709)), none, (some (Value.ref 0))])
noncomputable def o224 (p : Program) (P : Params) : Obj := (Obj.mk (Value.type "tuple") none (Data.seq #[] 0) #[])
noncomputable def o225 (p : Program) (P : Params) : Obj := (Obj.mk (Value.type "dict") none (Data.dict #[(DictEntry.mk (PyData.keyHash P s191) (Value.str s191 738) (Value.str s341 709)), (DictEntry.mk (PyData.keyHash P s193) (Value.str s193 742) (Value.int 230 741)), (DictEntry.mk (PyData.keyHash P s203) (Value.str s203 743) (Value.ref 217)), (DictEntry.mk (PyData.keyHash P s2) (Value.str s2 744) Value.none)] 2) #[])
noncomputable def o226 (p : Program) (P : Params) : Obj := (Obj.mk (Value.type "type") none (Data.cls (ClassData.mk s320 [(Value.ref 206)] [(Value.ref 219), (Value.ref 206), (Value.type "Exception"), (Value.type "BaseException"), (Value.type "object")] 218 s320 Bool.true [] [] Bool.false none Bool.false)) #[(some (Value.ref 210)), none, (some (Value.str s320 731)), (some (Value.str s320 739)), (some (Value.builtin "Exception.__new__")), (some (Value.bool Bool.true))])
noncomputable def o227 (p : Program) (P : Params) : Obj := (Obj.mk (Value.type "super") none (Data.fields #[(Value.ref 219), (Value.ref 219), (Value.ref 219)]) #[])
noncomputable def o228 (p : Program) (P : Params) : Obj := (Obj.mk (Value.type "builtin_function_or_method") none (Data.fields #[(Value.builtin "object.__init_subclass__"), (Value.ref 219)]) #[])
noncomputable def o229 (p : Program) (P : Params) : Obj := (Obj.mk (Value.type "tuple") none (Data.seq #[] 0) #[])
noncomputable def o230 (p : Program) (P : Params) : Obj := (Obj.mk Value.none none (Data.fields #[]) #[])
noncomputable def o231 (p : Program) (P : Params) : Obj := (Obj.mk (Value.type "tuple") none (Data.seq #[(Value.str s342 750), (Value.str s343 751), (Value.str s332 752), (Value.str s333 753), (Value.str s334 754)] 0) #[])
noncomputable def o232 (p : Program) (P : Params) : Obj := (Obj.mk (Value.type "tuple") none (Data.seq #[] 0) #[])
noncomputable def o233 (p : Program) (P : Params) : Obj := (Obj.mk Value.none none (Data.func (fnD (a1 p 20) s321 s321 0 [] Value.none Value.none Value.none Value.none none Value.none Value.none 0)) #[])
noncomputable def o234 (p : Program) (P : Params) : Obj := (Obj.mk (Value.type "code") none (Data.fields #[(Value.str s321 747), (Value.str s321 748), (Value.str s176 749), (Value.int 232 0), (Value.int 1 0), (Value.int 0 0), (Value.int 0 0), (Value.int 3 0), (Value.ref 222), (Value.bool Bool.true), (Value.int 276 0), (Value.ref 223), Value.none, (Value.ref 224), (Value.ref 225), (Value.ref 226), (Value.int 755 0), (Value.int 232 0), (Value.str s176 756)]) #[])
noncomputable def o235 (p : Program) (P : Params) : Obj := (Obj.mk (Value.type "function") none (Data.func (fnD (a1 p 20) s321 s321 3 [] Value.none Value.none Value.none (Value.str s341 709) none (Value.ref 227) Value.none 0)) #[])
noncomputable def o236 (p : Program) (P : Params) : Obj := (Obj.mk (Value.type "tuple") none (Data.seq #[] 0) #[])
noncomputable def o237 (p : Program) (P : Params) : Obj := (Obj.mk Value.none none (Data.fields #[]) #[])
noncomputable def o238 (p : Program) (P : Params) : Obj := (Obj.mk (Value.type "tuple") none (Data.seq #[] 0) #[])
noncomputable def o239 (p : Program) (P : Params) : Obj := (Obj.mk (Value.type "tuple") none (Data.seq #[] 0) #[])
noncomputable def o240 (p : Program) (P : Params) : Obj := (Obj.mk Value.none none (Data.func (fnD (a1 p 23) s324 s324 0 [] Value.none Value.none Value.none Value.none none Value.none Value.none 0)) #[])
noncomputable def o241 (p : Program) (P : Params) : Obj := (Obj.mk (Value.type "code") none (Data.fields #[(Value.str s324 762), (Value.str s324 763), (Value.str s176 764), (Value.int 251 0), (Value.int 0 0), (Value.int 0 0), (Value.int 0 0), (Value.int 3 0), (Value.ref 229), (Value.bool Bool.true), (Value.int 276 0), (Value.ref 230), Value.none, (Value.ref 231), (Value.ref 232), (Value.ref 233), (Value.int 765 0), (Value.int 251 0), (Value.str s176 766)]) #[])
noncomputable def o242 (p : Program) (P : Params) : Obj := (Obj.mk (Value.type "function") none (Data.func (fnD (a1 p 23) s324 s324 3 [] Value.none Value.none Value.none (Value.str s316 758) none (Value.ref 234) Value.none 0)) #[])
noncomputable def o243 (p : Program) (P : Params) : Obj := (Obj.mk (Value.type "tuple") none (Data.seq #[] 0) #[])
noncomputable def o244 (p : Program) (P : Params) : Obj := (Obj.mk Value.none none (Data.fields #[]) #[])
noncomputable def o245 (p : Program) (P : Params) : Obj := (Obj.mk (Value.type "tuple") none (Data.seq #[(Value.str s209 771), (Value.str s344 772)] 0) #[])
noncomputable def o246 (p : Program) (P : Params) : Obj := (Obj.mk (Value.type "tuple") none (Data.seq #[] 0) #[])
noncomputable def o247 (p : Program) (P : Params) : Obj := (Obj.mk Value.none none (Data.func (fnD (a1 p 24) s325 s325 0 [] Value.none Value.none Value.none Value.none none Value.none Value.none 0)) #[])
noncomputable def o248 (p : Program) (P : Params) : Obj := (Obj.mk (Value.type "code") none (Data.fields #[(Value.str s325 768), (Value.str s325 769), (Value.str s176 770), (Value.int 253 0), (Value.int 1 0), (Value.int 0 0), (Value.int 0 0), (Value.int 3 0), (Value.ref 236), (Value.bool Bool.true), (Value.int 276 0), (Value.ref 237), Value.none, (Value.ref 238), (Value.ref 239), (Value.ref 240), (Value.int 773 0), (Value.int 253 0), (Value.str s176 774)]) #[])
noncomputable def o249 (p : Program) (P : Params) : Obj := (Obj.mk (Value.type "function") none (Data.func (fnD (a1 p 24) s325 s325 3 [] Value.none Value.none Value.none (Value.str s316 758) none (Value.ref 241) Value.none 0)) #[])
noncomputable def o250 (p : Program) (P : Params) : Obj := (Obj.mk (Value.type "tuple") none (Data.seq #[] 0) #[])
noncomputable def o251 (p : Program) (P : Params) : Obj := (Obj.mk Value.none none (Data.fields #[]) #[])
noncomputable def o252 (p : Program) (P : Params) : Obj := (Obj.mk Value.none none (Data.func (fnD (a1 p 25) s326 s326 0 [] Value.none Value.none Value.none Value.none none Value.none Value.none 0)) #[])
noncomputable def o253 (p : Program) (P : Params) : Obj := (Obj.mk (Value.type "code") none (Data.fields #[(Value.str s326 776), (Value.str s326 777), (Value.str s176 778), (Value.int 256 0), (Value.int 1 0), (Value.int 0 0), (Value.int 0 0), (Value.int 3 0), (Value.ref 243), (Value.bool Bool.true), (Value.int 276 0), (Value.ref 244), Value.none, Value.none, Value.none, (Value.ref 245), (Value.int 779 0), (Value.int 256 0), (Value.str s176 780)]) #[])
noncomputable def o254 (p : Program) (P : Params) : Obj := (Obj.mk (Value.type "function") none (Data.func (fnD (a1 p 25) s326 s326 3 [] Value.none Value.none Value.none (Value.str s316 758) none (Value.ref 246) Value.none 0)) #[])
noncomputable def o255 (p : Program) (P : Params) : Obj := (Obj.mk (Value.type "tuple") none (Data.seq #[] 0) #[])
noncomputable def o256 (p : Program) (P : Params) : Obj := (Obj.mk Value.none none (Data.fields #[]) #[])
noncomputable def o257 (p : Program) (P : Params) : Obj := (Obj.mk Value.none none (Data.func (fnD (a1 p 26) s327 s327 0 [] Value.none Value.none Value.none Value.none none Value.none Value.none 0)) #[])
noncomputable def o258 (p : Program) (P : Params) : Obj := (Obj.mk (Value.type "code") none (Data.fields #[(Value.str s327 782), (Value.str s327 783), (Value.str s176 784), (Value.int 262 0), (Value.int 2 0), (Value.int 0 0), (Value.int 0 0), (Value.int 3 0), (Value.ref 248), (Value.bool Bool.true), (Value.int 276 0), (Value.ref 249), Value.none, Value.none, Value.none, (Value.ref 250), (Value.int 785 0), (Value.int 262 0), (Value.str s176 786)]) #[])
noncomputable def o259 (p : Program) (P : Params) : Obj := (Obj.mk (Value.type "function") none (Data.func (fnD (a1 p 26) s327 s327 3 [] Value.none Value.none Value.none (Value.str s316 758) none (Value.ref 251) Value.none 0)) #[])
noncomputable def o260 (p : Program) (P : Params) : Obj := (Obj.mk (Value.type "tuple") none (Data.seq #[] 0) #[])
noncomputable def o261 (p : Program) (P : Params) : Obj := (Obj.mk Value.none none (Data.fields #[]) #[])
noncomputable def o262 (p : Program) (P : Params) : Obj := (Obj.mk Value.none none (Data.func (fnD (a1 p 27) s328 s328 0 [] Value.none Value.none Value.none Value.none none Value.none Value.none 0)) #[])
noncomputable def o263 (p : Program) (P : Params) : Obj := (Obj.mk (Value.type "code") none (Data.fields #[(Value.str s328 788), (Value.str s328 789), (Value.str s176 790), (Value.int 288 0), (Value.int 1 0), (Value.int 0 0), (Value.int 0 0), (Value.int 3 0), (Value.ref 253), (Value.bool Bool.true), (Value.int 276 0), (Value.ref 254), Value.none, Value.none, Value.none, (Value.ref 255), (Value.int 791 0), (Value.int 288 0), (Value.str s176 792)]) #[])
noncomputable def o264 (p : Program) (P : Params) : Obj := (Obj.mk (Value.type "function") none (Data.func (fnD (a1 p 27) s328 s328 3 [] Value.none Value.none Value.none (Value.str s316 758) none (Value.ref 256) Value.none 0)) #[])
noncomputable def o265 (p : Program) (P : Params) : Obj := (Obj.mk (Value.type "tuple") none (Data.seq #[] 0) #[])
noncomputable def o266 (p : Program) (P : Params) : Obj := (Obj.mk Value.none none (Data.fields #[]) #[])
noncomputable def o267 (p : Program) (P : Params) : Obj := (Obj.mk Value.none none (Data.func (fnD (a1 p 28) s329 s329 0 [] Value.none Value.none Value.none Value.none none Value.none Value.none 0)) #[])
noncomputable def o268 (p : Program) (P : Params) : Obj := (Obj.mk (Value.type "code") none (Data.fields #[(Value.str s329 794), (Value.str s329 795), (Value.str s176 796), (Value.int 304 0), (Value.int 1 0), (Value.int 0 0), (Value.int 0 0), (Value.int 3 0), (Value.ref 258), (Value.bool Bool.true), (Value.int 276 0), (Value.ref 259), Value.none, Value.none, Value.none, (Value.ref 260), (Value.int 797 0), (Value.int 304 0), (Value.str s176 798)]) #[])
noncomputable def o269 (p : Program) (P : Params) : Obj := (Obj.mk (Value.type "function") none (Data.func (fnD (a1 p 28) s329 s329 3 [] Value.none Value.none Value.none (Value.str s316 758) none (Value.ref 261) Value.none 0)) #[])
noncomputable def tS28 (p : Program) (P : Params) : BT := (.node (o0 p P) (.node (o1 p P) (.node (o188 p P) (.node (o7 p P) (.node (o15 p P) (.node (o31 p P) (.node (o65 p P) (.node (o129 p P) (.node (o262 p P) .nil .nil) .nil) (.node (o198 p P) .nil .nil)) (.node (o97 p P) (.node (o161 p P) .nil .nil) (.node (o230 p P) .nil .nil))) (.node (o49 p P) (.node (o81 p P) (.node (o145 p P) .nil .nil) (.node (o214 p P) .nil .nil)) (.node (o113 p P) (.node (o179 p P) .nil .nil) (.node (o246 p P) .nil .nil)))) (.node (o23 p P) (.node (o41 p P) (.node (o73 p P) (.node (o137 p P) .nil .nil) (.node (o206 p P) .nil .nil)) (.node (o105 p P) (.node (o169 p P) .nil .nil) (.node (o238 p P) .nil .nil))) (.node (o57 p P) (.node (o89 p P) (.node (o153 p P) .nil .nil) (.node (o222 p P) .nil .nil)) (.node (o121 p P) (.node (o190 p P) .nil .nil) (.node (o254 p P) .nil .nil))))) (.node (o11 p P) (.node (o19 p P) (.node (o37 p P) (.node (o69 p P) (.node (o133 p P) (.node (o266 p P) .nil .nil) .nil) (.node (o202 p P) .nil .nil)) (.node (o101 p P) (.node (o165 p P) .nil .nil) (.node (o234 p P) .nil .nil))) (.node (o53 p P) (.node (o85 p P) (.node (o149 p P) .nil .nil) (.node (o218 p P) .nil .nil)) (.node (o117 p P) (.node (o183 p P) .nil .nil) (.node (o250 p P) .nil .nil)))) (.node (o27 p P) (.node (o45 p P) (.node (o77 p P) (.node (o141 p P) .nil .nil) (.node (o210 p P) .nil .nil)) (.node (o109 p P) (.node (o175 p P) .nil .nil) (.node (o242 p P) .nil .nil))) (.node (o61 p P) (.node (o93 p P) (.node (o157 p P) .nil .nil) (.node (o226 p P) .nil .nil)) (.node (o125 p P) (.node (o194 p P) .nil .nil) (.node (o258 p P) .nil .nil)))))) (.node (o5 p P) (.node (o9 p P) (.node (o17 p P) (.node (o35 p P) (.node (o67 p P) (.node (o131 p P) (.node (o264 p P) .nil .nil) .nil) (.node (o200 p P) .nil .nil)) (.node (o99 p P) (.node (o163 p P) .nil .nil) (.node (o232 p P) .nil .nil))) (.node (o51 p P) (.node (o83 p P) (.node (o147 p P) .nil .nil) (.node (o216 p P) .nil .nil)) (.node (o115 p P) (.node (o181 p P) .nil .nil) (.node (o248 p P) .nil .nil)))) (.node (o25 p P) (.node (o43 p P) (.node (o75 p P) (.node (o139 p P) .nil .nil) (.node (o208 p P) .nil .nil)) (.node (o107 p P) (.node (o171 p P) .nil .nil) (.node (o240 p P) .nil .nil))) (.node (o59 p P) (.node (o91 p P) (.node (o155 p P) .nil .nil) (.node (o224 p P) .nil .nil)) (.node (o123 p P) (.node (o192 p P) .nil .nil) (.node (o256 p P) .nil .nil))))) (.node (o13 p P) (.node (o21 p P) (.node (o39 p P) (.node (o71 p P) (.node (o135 p P) (.node (o268 p P) .nil .nil) .nil) (.node (o204 p P) .nil .nil)) (.node (o103 p P) (.node (o167 p P) .nil .nil) (.node (o236 p P) .nil .nil))) (.node (o55 p P) (.node (o87 p P) (.node (o151 p P) .nil .nil) (.node (o220 p P) .nil .nil)) (.node (o119 p P) (.node (o185 p P) .nil .nil) (.node (o252 p P) .nil .nil)))) (.node (o189 p P) (.node (o47 p P) (.node (o79 p P) (.node (o143 p P) .nil .nil) (.node (o212 p P) .nil .nil)) (.node (o111 p P) (.node (o177 p P) .nil .nil) (.node (o244 p P) .nil .nil))) (.node (o63 p P) (.node (o95 p P) (.node (o159 p P) .nil .nil) (.node (o228 p P) .nil .nil)) (.node (o127 p P) (.node (o196 p P) .nil .nil) (.node (o260 p P) .nil .nil))))))) (.node (o187 p P) (.node (o4 p P) (.node (o8 p P) (.node (o16 p P) (.node (o34 p P) (.node (o66 p P) (.node (o130 p P) (.node (o263 p P) .nil .nil) .nil) (.node (o199 p P) .nil .nil)) (.node (o98 p P) (.node (o162 p P) .nil .nil) (.node (o231 p P) .nil .nil))) (.node (o50 p P) (.node (o82 p P) (.node (o146 p P) .nil .nil) (.node (o215 p P) .nil .nil)) (.node (o114 p P) (.node (o180 p P) .nil .nil) (.node (o247 p P) .nil .nil)))) (.node (o24 p P) (.node (o42 p P) (.node (o74 p P) (.node (o138 p P) .nil .nil) (.node (o207 p P) .nil .nil)) (.node (o106 p P) (.node (o170 p P) .nil .nil) (.node (o239 p P) .nil .nil))) (.node (o58 p P) (.node (o90 p P) (.node (o154 p P) .nil .nil) (.node (o223 p P) .nil .nil)) (.node (o122 p P) (.node (o191 p P) .nil .nil) (.node (o255 p P) .nil .nil))))) (.node (o12 p P) (.node (o20 p P) (.node (o38 p P) (.node (o70 p P) (.node (o134 p P) (.node (o267 p P) .nil .nil) .nil) (.node (o203 p P) .nil .nil)) (.node (o102 p P) (.node (o166 p P) .nil .nil) (.node (o235 p P) .nil .nil))) (.node (o54 p P) (.node (o86 p P) (.node (o150 p P) .nil .nil) (.node (o219 p P) .nil .nil)) (.node (o118 p P) (.node (o184 p P) .nil .nil) (.node (o251 p P) .nil .nil)))) (.node (o28 p P) (.node (o46 p P) (.node (o78 p P) (.node (o142 p P) .nil .nil) (.node (o211 p P) .nil .nil)) (.node (o110 p P) (.node (o176 p P) .nil .nil) (.node (o243 p P) .nil .nil))) (.node (o62 p P) (.node (o94 p P) (.node (o158 p P) .nil .nil) (.node (o227 p P) .nil .nil)) (.node (o126 p P) (.node (o195 p P) .nil .nil) (.node (o259 p P) .nil .nil)))))) (.node (o6 p P) (.node (o10 p P) (.node (o18 p P) (.node (o36 p P) (.node (o68 p P) (.node (o132 p P) (.node (o265 p P) .nil .nil) .nil) (.node (o201 p P) .nil .nil)) (.node (o100 p P) (.node (o164 p P) .nil .nil) (.node (o233 p P) .nil .nil))) (.node (o52 p P) (.node (o84 p P) (.node (o148 p P) .nil .nil) (.node (o217 p P) .nil .nil)) (.node (o116 p P) (.node (o182 p P) .nil .nil) (.node (o249 p P) .nil .nil)))) (.node (o26 p P) (.node (o44 p P) (.node (o76 p P) (.node (o140 p P) .nil .nil) (.node (o209 p P) .nil .nil)) (.node (o108 p P) (.node (o172 p P) .nil .nil) (.node (o241 p P) .nil .nil))) (.node (o60 p P) (.node (o92 p P) (.node (o156 p P) .nil .nil) (.node (o225 p P) .nil .nil)) (.node (o124 p P) (.node (o193 p P) .nil .nil) (.node (o257 p P) .nil .nil))))) (.node (o14 p P) (.node (o22 p P) (.node (o40 p P) (.node (o72 p P) (.node (o136 p P) (.node (o269 p P) .nil .nil) .nil) (.node (o205 p P) .nil .nil)) (.node (o104 p P) (.node (o168 p P) .nil .nil) (.node (o237 p P) .nil .nil))) (.node (o56 p P) (.node (o88 p P) (.node (o152 p P) .nil .nil) (.node (o221 p P) .nil .nil)) (.node (o120 p P) (.node (o186 p P) .nil .nil) (.node (o253 p P) .nil .nil)))) (.node (o30 p P) (.node (o48 p P) (.node (o80 p P) (.node (o144 p P) .nil .nil) (.node (o213 p P) .nil .nil)) (.node (o112 p P) (.node (o178 p P) .nil .nil) (.node (o245 p P) .nil .nil))) (.node (o64 p P) (.node (o96 p P) (.node (o160 p P) .nil .nil) (.node (o229 p P) .nil .nil)) (.node (o128 p P) (.node (o197 p P) .nil .nil) (.node (o261 p P) .nil .nil))))))))
noncomputable def S28T (p : Program) (w : World) (os : OsState) : SharedT := SharedT.mk (tS28 p w.params) 263 (Life.mk [] [] [] 0 [] [] Bool.false #[] [] 0 Bool.false Bool.false Bool.false 0 [2000, 10, 10] Bool.false 0 Bool.true [] [] 0 Bool.false) #[] (Drawn.mk 0 0 0 0) 800 os
noncomputable def S28pos : Pos := (Pos.mk 304 0 326 16)
noncomputable def fpos : Pos := (Pos.mk 0 0 0 0)
noncomputable def envP (p : Program) : Env := { scope := p.main.scope, locals := mainNs, globals := mainNs, cells := [], code := (Value.ref 30), frame := some 31 }
noncomputable def bI (p : Program) : List Stmt := behindTheImports p
noncomputable def cE (p : Program) : Code := Code.body (bI p) (envP p)
noncomputable def annV : Option Value := (some (Value.ref 6))
end HH
end
section
open PySem PySem.W PySem.Calls PyProof.Rows
namespace HH
noncomputable abbrev pw : Program := Challenge.pw_kt0071_01
noncomputable abbrev stk : List Frame := [topFrame fpos]
theorem k_pre (w : World) : (fun os => PySem.W.Fast.tw15667345088766844465 PySem.W.Fast.tw14364793385576792824 pw w 28 annV 12 (S0T pw w os).abs (topStub pw)) = fun os => some ((SaT pw w os).abs, ⟨PySem.W.Fast.tw11892475500146522536 PySem.W.Fast.tw14364793385576792824 (cE pw), cE pw, Sapos, stk⟩) := by kernel_rfl
theorem k_block (w : World) : (fun os => PySem.W.Fast.tw14374325043358763698 PySem.W.Fast.tw14364793385576792824 pw w 28 annV 1 1 (SaT pw w os).abs (blockOf (bI pw) (envP pw) (cE pw) Sapos stk)) = fun os => some (Flow.next, (SbT pw w os).abs, cE pw, Sbpos) := by kernel_rfl
theorem k_g1 (w : World) : (fun os => PySem.W.Fast.tw10110043849684766642 PySem.W.Fast.tw14364793385576792824 pw w 28 annV 1 1173 (SbT pw w os) (piecesOf ((bI pw).take 11) (envP pw) (cE pw) Sbpos stk)) = fun os => some (Flow.next, S11T pw w os, cE pw, S11pos) := by kernel_rfl
@[reducible] noncomputable def Q_g2 (w : World) : Prop := (fun os => PySem.W.Fast.tw10110043849684766642 PySem.W.Fast.tw14364793385576792824 pw w 28 annV 1 1400 (S11T pw w os) (piecesOf (((bI pw).drop 11).take 3) (envP pw) (cE pw) S11pos stk)) = fun os => some (Flow.next, S14T pw w os, cE pw, S14pos)
theorem k_g2 : ∀ w : World, Q_g2 w := byRow2 (P := Q_g2) "comprehension-iter-twice" (byRow2 (P := fun w => Q_g2 (w.withFollow "comprehension-iter-twice" false)) "special-get-raises" (fun w => by kernel_rfl) (fun w => by kernel_rfl)) (byRow2 (P := fun w => Q_g2 (w.withFollow "comprehension-iter-twice" true)) "special-get-raises" (fun w => by kernel_rfl) (fun w => by kernel_rfl))
theorem k_g3 (w : World) : (fun os => PySem.W.Fast.tw10110043849684766642 PySem.W.Fast.tw14364793385576792824 pw w 28 annV 1 708 (S14T pw w os) (piecesOf ((bI pw).drop 14) (envP pw) (cE pw) S14pos stk)) = fun os => some (Flow.next, S28T pw w os, cE pw, S28pos) := by kernel_rfl
noncomputable def life0 : Life := (PySem.Life.mk [] [] [] 0 [] [] Bool.false #[] [] 0 Bool.false Bool.false Bool.false 0 [2000, 10, 10] Bool.false 0 Bool.true [] [] 0 Bool.false)
theorem k_open (w : World) : (((PySem.W.Fast.tw10274390034422433532 PySem.W.Fast.tw14364793385576792824 (opening pw) w 6000 (PySem.W.Fast.tw1435165496053646825 (opening pw)).1 (PySem.W.Fast.tw1435165496053646825 (opening pw)).2).bind (PySem.W.Fast.tw14289696077712309145 pw)).map fun s => (s.heap, s.gens, s.drawn, s.toks)) = some (absHeap (tS0 pw w.params) 28 life0, #[], (PySem.Drawn.mk 0 0 0 0), 276) := by kernel_rfl
theorem k_fin (w : World) : (fun os => PySem.W.Fast.tw14082659384304107361 PySem.W.Fast.tw14364793385576792824 pw w 28 annV 2 (S28T pw w os).abs ⟨doneF Flow.next, cE pw, S28pos, stk⟩) = fun os => some (S28T pw w os).abs := by kernel_rfl
noncomputable abbrev d0 : Drawn := PySem.Drawn.mk 0 0 0 0
theorem r_pre (w : World) (os : OsState) : topGo treeTable pw w 28 annV 12 (S0T pw w os).abs (topStub pw) = some ((SaT pw w os).abs, ⟨denote treeTable (cE pw), cE pw, Sapos, stk⟩) := by
  have h := congrFun (k_pre w) os
  rw [← PySem.W.Fast.te15667345088766844465, ← PySem.W.Fast.te14364793385576792824, ← PySem.W.Fast.te11892475500146522536] at h; exact h
theorem r_block (w : World) (os : OsState) : segRun treeTable pw w 28 annV 1 1 (SaT pw w os).abs (blockOf (bI pw) (envP pw) (cE pw) Sapos stk) = some (Flow.next, (SbT pw w os).abs, cE pw, Sbpos) := by
  have h := congrFun (k_block w) os
  rw [← PySem.W.Fast.te14374325043358763698, ← PySem.W.Fast.te14364793385576792824] at h; exact h
theorem r_seg {w : World} {n : Nat} {l : List Stmt} {a b : SharedT} {p p' : Pos} (h : PySem.W.Fast.tw10110043849684766642 PySem.W.Fast.tw14364793385576792824 pw w 28 annV 1 n a (piecesOf l (envP pw) (cE pw) p stk) = some (Flow.next, b, cE pw, p')) : segRun treeTable pw w 28 annV 1 n a.abs (piecesOf l (envP pw) (cE pw) p stk) = some (Flow.next, b.abs, cE pw, p') := by
  rw [← PySem.W.Fast.te10110043849684766642, ← PySem.W.Fast.te14364793385576792824] at h; exact segRun_of h
theorem r_fin (w : World) (os : OsState) : topRun treeTable pw w 28 annV 2 (S28T pw w os).abs ⟨doneF Flow.next, cE pw, S28pos, stk⟩ = some (S28T pw w os).abs := by
  have h := congrFun (k_fin w) os
  rw [← PySem.W.Fast.te14082659384304107361, ← PySem.W.Fast.te14364793385576792824] at h; exact h
theorem b_split (l : List Stmt) : l = l.take 11 ++ ((l.drop 11).take 3 ++ (l.drop 14 ++ [])) := by
  rw [List.append_nil, ← List.take_append_drop 11 l]
  congr 1
  · simp
  · have := (List.take_append_drop 3 (l.drop 11)).symm
    rw [List.drop_drop] at this
    simpa using this
theorem r_run (w : World) (os : OsState) : topRun treeTable pw w 28 annV (12 + (1 + (1173 + (1400 + (708 + 2))))) (S0T pw w os).abs (topStub pw) = some (S28T pw w os).abs := by
  refine go_top (r_pre w os) (piece_block (r_block w os) ?_)
  rw [b_split (bI pw)]
  exact piece_app (r_seg (congrFun (k_g1 w) os)) (piece_app (r_seg (congrFun (k_g2 w) os)) (piece_app (r_seg (congrFun (k_g3 w) os)) (r_fin w os)))
theorem r_open (w : World) : (fencedOpening treeTable pw w 6000).map (fun s => (s.heap, s.gens, s.drawn, s.toks)) = some (absHeap (tS0 pw w.params) 28 life0, #[], d0, 276) := by
  have h := k_open w
  rw [← PySem.W.Fast.te10274390034422433532, ← PySem.W.Fast.te14364793385576792824, ← PySem.W.Fast.te1435165496053646825, ← PySem.W.Fast.te14289696077712309145] at h
  exact h
end HH
end
section
open PySem PySem.W PySem.Calls PyProof.Rows
open HH
noncomputable def qv : Program := { pw with main := { pw.main with body := [a1 pw 28] } }
noncomputable def loo : List Str := ["_sre", "_wall", "_NODE_OUT", "_NODE_DONE", "_NodeInfo", "CycleError", "TopologicalSorter", "_twin_re_1", "translate", "_special_chars_map", "escape", "_translate", "_join_translated_parts", "Error", "error_reply", "parse257", "_law_signs", "_law_choices", "_law_read", "_law_rule", "_law_order", "_law_least"]
noncomputable def KK (P : Params) : Frag := [(2, o187 pw P), (3, o188 pw P), (32, o34 pw P), (34, o36 pw P), (35, o37 pw P), (37, o39 pw P), (38, o40 pw P), (46, o48 pw P), (47, o49 pw P), (49, o51 pw P), (50, o52 pw P), (52, o54 pw P), (53, o55 pw P), (54, o56 pw P), (56, o58 pw P), (57, o59 pw P), (58, o60 pw P), (59, o61 pw P), (60, o62 pw P), (63, o65 pw P), (70, o72 pw P), (71, o73 pw P), (72, o74 pw P), (73, o75 pw P), (83, o85 pw P), (84, o86 pw P), (86, o88 pw P), (87, o89 pw P), (89, o91 pw P), (90, o92 pw P), (91, o93 pw P), (93, o95 pw P), (94, o96 pw P), (96, o98 pw P), (97, o99 pw P), (98, o100 pw P), (100, o102 pw P), (101, o103 pw P), (103, o105 pw P), (104, o106 pw P), (105, o107 pw P), (108, o110 pw P), (109, o111 pw P), (110, o112 pw P), (112, o114 pw P), (113, o115 pw P), (115, o117 pw P), (116, o118 pw P), (117, o119 pw P), (119, o121 pw P), (120, o122 pw P), (122, o124 pw P), (123, o125 pw P), (124, o126 pw P), (126, o128 pw P), (127, o129 pw P), (129, o131 pw P), (130, o132 pw P), (131, o133 pw P), (133, o135 pw P), (134, o136 pw P), (136, o138 pw P), (137, o139 pw P), (138, o140 pw P), (140, o142 pw P), (141, o143 pw P), (143, o145 pw P), (144, o146 pw P), (145, o147 pw P), (147, o149 pw P), (148, o150 pw P), (150, o152 pw P), (151, o153 pw P), (152, o154 pw P), (153, o155 pw P), (154, o156 pw P), (155, o157 pw P), (156, o158 pw P), (162, o164 pw P), (163, o165 pw P), (164, o166 pw P), (166, o168 pw P), (167, o169 pw P), (169, o171 pw P), (170, o172 pw P), (172, o176 pw P), (176, o180 pw P), (178, o182 pw P), (179, o183 pw P), (181, o185 pw P), (182, o186 pw P), (183, o190 pw P), (185, o192 pw P), (186, o193 pw P), (188, o195 pw P), (189, o196 pw P), (190, o197 pw P), (192, o199 pw P), (193, o200 pw P), (195, o202 pw P), (196, o203 pw P), (197, o204 pw P), (204, o211 pw P), (205, o212 pw P), (206, o213 pw P), (207, o214 pw P), (210, o217 pw P), (217, o224 pw P), (218, o225 pw P), (219, o226 pw P), (222, o229 pw P), (224, o231 pw P), (225, o232 pw P), (227, o234 pw P), (228, o235 pw P), (229, o236 pw P), (231, o238 pw P), (232, o239 pw P), (234, o241 pw P), (235, o242 pw P), (236, o243 pw P), (238, o245 pw P), (239, o246 pw P), (241, o248 pw P), (242, o249 pw P), (243, o250 pw P), (246, o253 pw P), (247, o254 pw P), (248, o255 pw P), (251, o258 pw P), (252, o259 pw P), (253, o260 pw P), (256, o263 pw P), (257, o264 pw P), (258, o265 pw P), (261, o268 pw P), (262, o269 pw P)]
noncomputable def Ka : List Addr := [2, 3, 32, 34, 35, 37, 38, 46, 47, 49, 50, 52, 53, 54, 56, 57, 58, 59, 60, 63, 70, 71, 72, 73, 83, 84, 86, 87, 89, 90, 91, 93, 94, 96, 97, 98, 100, 101, 103, 104, 105, 108, 109, 110, 112, 113, 115, 116, 117, 119, 120, 122, 123, 124, 126, 127, 129, 130, 131, 133, 134, 136, 137, 138, 140, 141, 143, 144, 145, 147, 148, 150, 151, 152, 153, 154, 155, 156, 162, 163, 164, 166, 167, 169, 170, 172, 176, 178, 179, 181, 182, 183, 185, 186, 188, 189, 190, 192, 193, 195, 196, 197, 204, 205, 206, 207, 210, 217, 218, 219, 222, 224, 225, 227, 228, 229, 231, 232, 234, 235, 236, 238, 239, 241, 242, 243, 246, 247, 248, 251, 252, 253, 256, 257, 258, 261, 262]
theorem Ka_eq (P : Params) : Ka = (KK P).map (·.1) := rfl
noncomputable abbrev H1 (P : Params) : Heap := absHeap (tS28 pw P) 263 life0
noncomputable abbrev H0 (P : Params) : Heap := absHeap (tS0 pw P) 28 life0
theorem look1 (w : World) : (fun os => (staticsOk (importedModules pw.main.body) (H0 w.params) (H1 w.params) && namesBound pw (H1 w.params) && gensDone ⟨H1 w.params, #[], d0, 800, os⟩ && laidKept (H0 w.params) (H1 w.params))) = fun (_ : OsState) => true := by kernel_rfl
theorem look2 (w : World) : (fun os => (openSeen qv loo (importedModules pw.main.body) (fun _ => true) true ⟨H1 w.params, #[], d0, 800, os⟩)) = fun (_ : OsState) => openGood qv loo := by kernel_rfl
theorem look3 (w : World) : (Ka.map (H1 w.params).get?) = (KK w.params).map fun p => some p.2 := by kernel_rfl
theorem look0 (w : World) : ((H0 w.params).isNs mainGlobals && (#[] : Array GenState).size == 0, (H0 w.params).objs.size, (H0 w.params).nsMap mainGlobals "__annotations__") = (true, 28, annV) := by kernel_rfl
theorem left : LeftO pw qv loo (fun _ => true) (fun s => Ka.map s.heap.get?) (fun w => (KK w.params).map fun p => some p.2) 6000 := by
  refine LeftO.of_pieces (H₀ := H0) (H₁ := H1) (gs₀ := #[]) (gs₁ := #[]) (d₀ := d0) (d₁ := d0) (k₀ := 276) (k₁ := 800) (m₀ := 28) (ann := annV) (M := 12 + (1 + (1173 + (1400 + (708 + 2))))) r_open look0 (fun w os => r_run w os) (by decide) (fun w => funext fun os => ?_)
  exact looks_pair (congrFun (look1 w) os) (looks_pair (congrFun (look2 w) os) (look3 w))
end
section
open PySem PySem.W PySem.Calls PyProof.Rows
open HH
theorem said : PySem.Challenge.rw_kt0071_01.wellSaid = true := by kernel_rfl
theorem rowsaid : PySem.Challenge.rw_kt0071_01.row.wellSaid = true := row_said said
theorem chok : (chainsOk qv && opensWell PySem.Challenge.rw_kt0071_01.row.prog && (frees PySem.Challenge.rw_kt0071_01.row.toRowW && PySem.Challenge.rw_kt0071_01.row.within.isEmpty)) = true := by kernel_rfl
theorem bare1 : PySem.Challenge.rw_kt0071_01.row.prog.bare := ⟨rfl, rfl, rfl, rfl, rfl, by kernel_rfl⟩
theorem hd1 (h : ∀ d kwd, defOf qv PySem.Challenge.rw_kt0071_01.row.name = some (d, kwd) → WalkO qv loo (fun _ _ => True) (InK KK) PySem.Challenge.rw_kt0071_01.row.toRowW d kwd fun f vs => PySem.call f vs) : PySem.Challenge.rw_kt0071_01.Holds := by
  refine holds_law said fun said2 => ?_
  refine W.holds_open (q := qv) (loose := loo) (Xt := fun _ => true) (XP := fun _ _ => True) (YP := InK KK) (N := 6000) left (InK.of Ka_eq) InK.keeps (fun _ _ => trivial) (fun _ _ _ _ _ => trivial) (by rfl) (by rfl) (by rfl) (fun s _ => recFacts_of (by rfl)) (by rfl) said2 chok bare1 ?hw (h _ _ (by rfl))
  case hw => w_witness2
end
section
@[reducible] noncomputable def K1 (w : World) : Frag := KK w.params
abbrev prog1 : Program := Challenge.rw_kt0071_01.row.prog
structure Bs (w : World) (h₀ : Heap) : Prop where
  X : (K1 w).In h₀
  T : ∃ p loose mean mg mb, Top p loose mean mg mb h₀
theorem Bs.nolimit {w : World} {h₀ : Heap} (b : Bs w h₀) : h₀.NoLimit := let ⟨_, _, _, _, _, T⟩ := b.T; T.nolimit
theorem Bs.past {w : World} {h₀ : Heap} (b : Bs w h₀) : Past h₀ := Nat.lt_of_le_of_lt (show sysModules ≤ 2 by decide) (Heap.lt_size (b.X 2 _ (by rfl)))
theorem Bs.glob {w : World} {h₀ : Heap} (b : Bs w h₀) {x : Str} {v : Value} (e : nsIn (K1 w) mainGlobals x = some (some v)) : GV h₀ x v :=
  let ⟨_, _, _, _, _, T⟩ := b.T; GV.glob T.g (mg_of b.X T.g e)
theorem Bs.built {w : World} {h₀ : Heap} (b : Bs w h₀) {x : Str} {v : Value} (e : nsIn (K1 w) mainGlobals x = some none) (hv : bootBuiltins x = some v) (hn : x ≠ "__name__") : GV h₀ x v :=
  let ⟨_, _, _, _, _, T⟩ := b.T; GV.built T.g (mg_none_of b.X T.g e) T.b ((T.builtins x hn).trans hv)
theorem Bs.code {w : World} {h₀ : Heap} (b : Bs w h₀) {c : Addr} {q : Str} {o : Obj} {vs : Array Value} {t : Tok} (e : (K1 w).lookup c = some o) (hd : o.data = .fields vs) (hv : vs[1]? = some (.str q t)) : h₀.CodeRec (.ref c) q :=
  ⟨c, o, vs, t, rfl, b.X _ _ e, hd, hv⟩
theorem len_glob {w : World} {h₀ : Heap} (b : Bs w h₀) : GV h₀ "len" (.builtin "len") := b.built (by rfl) (by rfl) (by decide)
end
local macro_rules | `(tactic| walk_at "ld") => `(tactic| first | assumption | rfl)
local macro_rules | `(tactic| walk_at "sz") => `(tactic| first | assumption | (simp only [sizeLine_eq, S_len, L_S, List.length_append, List.length_cons, List.length_nil, List.length_map] <;> omega))
local macro_rules | `(tactic| walk_at "keep") => `(tactic| first | exact keeps_builtin | exact keeps_type | exact keeps_in (Bs.X (by assumption)) (by rfl))
local macro_rules | `(tactic| walk_at "e") => `(tactic| first
  | (with_reducible first | refine v_int ?_ | refine v_str ?_ | refine v_none ?_ | refine v_bool ?_ | refine v_bin ?_ | refine v_un ?_ | refine v_walrus ?_ | refine v_ifexp ?_ | refine v_fstr1 ?_ | refine v_dict0 ?_ | refine v_list ?_ | refine v_tuple ?_)
  | ((with_reducible show Cx.V _ (eval (Expr.Name _ _) _) _ _ _); first | refine v_local (by walk_at "ld") ?_ | refine v_glob (by assumption) ?_ | refine v_cell (by rfl) (by assumption) ?_)
  | ((with_reducible refine v_cmp_ ?_ ?_); with_unfolding_all rfl)
  | ((with_reducible show Cx.V _ (eval (Expr.Call (Expr.Attribute _ _ _) _ _ _) _) _ _ _); refine v_meth ?_)
  | ((with_reducible refine v_call_ ?_ ?_ ?_); rfl; rfl)
  | ((with_reducible refine v_slice_ ?_ ?_); intro _ _; rfl)
  | ((with_reducible refine v_sub_ ?_ ?_ ?_ ?_); rfl; (intro _ _; rfl); intro _ _; rfl)
  | ((with_reducible refine v_attr_ ?_ ?_ ?_); (intro _ _; rfl); with_unfolding_all rfl)
  | ((with_reducible refine v_attrT_ ?_ ?_); with_unfolding_all rfl)
  | ((with_reducible show Cx.V _ (eval (Expr.JoinedStr [_, _, _] _) _) _ _ _); refine v_fstr3 ?_))
local macro_rules | `(tactic| walk_at "i") => `(tactic| first
  | (with_reducible first | refine it_nil ?_ | refine part_none ?_ | refine part_some ?_ | refine intP ?_)
  | ((with_reducible refine it_cons_ ?_ ?_); rfl)
  | ((with_reducible refine sl_str ?_ ?_); walk_at "sz")
  | ((with_reducible show Cx.V _ (loadName _ _) _ _ _); refine ld_local (by walk_at "ld") ?_ (by rfl) (by rfl)))
local macro_rules | `(tactic| walk_at "t") => `(tactic| first
  | (with_reducible first | refine t_not ?_ | refine t_boolop ?_ | refine t_and_nil ?_ | refine t_or_nil ?_ | refine t_and ?_ | refine t_or ?_)
  | ((with_reducible refine t_cmp_ ?_ ?_); with_unfolding_all rfl)
  | ((with_reducible refine t_val_ ?_ ?_); rfl))
local macro_rules | `(tactic| walk_at "s") => `(tactic| first
  | (with_reducible first | refine s_nil ?_ | refine s_cons ?_ | refine s_aug ?_ | refine s_if ?_ | refine s_ret ?_ | refine s_ret0 ?_ | refine s_break ?_ | refine s_continue ?_ | refine s_pass ?_ | refine s_assert ?_ | refine s_del ?_ | refine s_augattr ?_)
  | ((with_reducible refine s_assign_ ?_ ?_); rfl)
  | ((with_reducible refine s_setattr_ ?_ ?_); rfl)
  | ((with_reducible show Cx.W _ (exec (Stmt.Assign [Expr.Subscript _ _ _] _ _) _) _ _ _); refine s_setitem ?_)
  | ((with_reducible refine s_asgtup_ ?_ ?_); rfl)
  | ((with_reducible refine s_two_ ?_ ?_ ?_); rfl; rfl)
  | ((with_reducible refine s_expr_ ?_ ?_ ?_); rfl; rfl))
local macro_rules | `(tactic| walk_at "o") => `(tactic| first
  | (with_reducible first | refine asg_name ?_ | refine o_add ?_ | refine o_sub ?_ | refine o_iadd ?_ | refine o_isub ?_ | refine o_eq ?_ | refine o_ne ?_ | refine o_lt ?_ | refine o_gt ?_ | refine o_le ?_ | refine o_ge ?_ | refine o_eqs ?_ | refine o_nes ?_ | refine v_is_none ?_ | refine v_isNot_none ?_ | refine o_neg ?_ | refine test_bool ?_ | refine test_int ?_ | refine test_none ?_)
  | ((with_reducible show put1 _ _ _ _ _ _); refine put_local ?_)
  | ((with_reducible show asg _ (Expr.Subscript _ _ _) _ _ _ _); refine asg_sub ?_)
  | ((with_reducible refine o_adds ?_ ?_); walk_at "sz")
  | ((with_reducible refine o_iadds ?_ ?_); walk_at "sz"))
local macro_rules | `(tactic| walk_at "c") => `(tactic| first
  | (with_reducible first | refine cf_builtin ?_ | refine cf_type ?_ | refine cf_ref ?_)
  | ((with_reducible refine cw_nil ?_ ?_); walk_at "keep")
  | ((with_reducible refine cw_lone_ ?_ ?_); rfl)
  | ((with_reducible refine cw_plain ?_ ?_); exact ⟨_, _, rfl⟩)
  | ((with_reducible refine keep_and ?_ ?_); walk_at "keep")
  | ((with_reducible refine c_len_str ?_ ?_); walk_at "sz")
  | ((with_reducible show vcall _ (Value.builtin "len") [Value.ref _] _ _ _); refine c_len_list (by assumption) (by walk_at "sz") ?_))
local macro_rules | `(tactic| walk_at "f") => `(tactic| with_reducible first
  | refine if_tt ?_ | refine if_ff ?_ | refine turn_next ?_ | refine turn_cont ?_ | refine turn_brk ?_ | refine turn_ret ?_)
local macro_rules | `(tactic| walk_at "w") => `(tactic| first | walk_at "e" | walk_at "i" | walk_at "t" | walk_at "s" | walk_at "o" | walk_at "c" | walk_at "f")
section
def pq : List Nat → List Nat
  | [] => []
  | [c] => if c = 34 then [] else [c]
  | c :: d :: r => if c = 34 then (if d = 34 then 34 :: pq r else []) else c :: pq (d :: r)
theorem pq_ne {c : Nat} {r : List Nat} (h : c ≠ 34) : pq (c :: r) = c :: pq r := by
  cases r <;> simp [pq, h]
theorem pq_qq {r : List Nat} : pq (34 :: 34 :: r) = 34 :: pq r := by simp [pq]
theorem pq_end {r : List Nat} (h : ∀ d, r.head? = some d → d ≠ 34) : pq (34 :: r) = [] := by
  cases r with
  | nil => simp [pq]
  | cons d r => simp [pq, h d rfl]
theorem drop_at {x : List Nat} {i c : Nat} (h : x[i]? = some c) : x.drop i = c :: x.drop (i + 1) := by
  obtain ⟨hl, e⟩ := List.getElem?_eq_some_iff.mp h
  rw [List.drop_eq_getElem_cons hl, e]
def parse (x : List Nat) : List Nat := if (x.drop 3).take 2 = [32, 34] then pq (x.drop 5) else []
noncomputable def ob_parse (w : World) : {o // (K1 w).lookup 228 = some o} := ⟨_, rfl⟩
noncomputable def fd_parse (w : World) : {fd // (ob_parse w).1.data = .func fd} := ⟨_, rfl⟩
noncomputable def bd_parse (w : World) : {b // (fd_parse w).1.body = .stmts b} := ⟨_, rfl⟩
noncomputable def cx_parse (w : World) (h₀ : Heap) (A : Around) (L : Addr) : Cx := ⟨prog1, w, h₀, A, callEnvC (fd_parse w).1 L 228, botE⟩
inductive PrsSt (x : List Nat) (σ : Sto) (n : Nat) (m' : Map) (σ' : Sto) : Prop
  | mk (q1 : σ' = σ) (i : Nat) (d : List Nat) (q2 : n = x.length - i) (q3 : i ≤ x.length) (q4 : m' "resp" = some (sv (S x))) (q5 : m' "i" = some (.int (i : Int) 0)) (q6 : m' "n" = some (.int ((S x).length : Nat) 0)) (q7 : m' "dirname" = some (sv (S d))) (q8 : d ++ pq (x.drop i) = pq (x.drop 5)) (q9 : d.length ≤ i) : PrsSt x σ n m' σ'
set_option maxHeartbeats 4000000 in
theorem fn_parse {w : World} {h₀ : Heap} (b : Bs w h₀) (x : List Nat) (hz : x.length ≤ 100000) (hx : x.take 3 = [50, 53, 55]) (σ : Sto) : Fn prog1 w h₀ 1 (.ref 228) [sv (S x)] (fun v σ' => σ' = σ ∧ v = sv (S (parse x))) botF σ := by
  refine fn_plain (o := (ob_parse w).1) (fd := (fd_parse w).1) (body := (bd_parse w).1) (names := [("resp" : Str)]) (b.X 228 _ (ob_parse w).2) (fd_parse w).2 (bd_parse w).2 (by rfl) b.nolimit (b.code (c := 227) (by rfl) (by rfl) (by rfl)) ?_ (by rfl) (by intro _; rfl) ?_
  · intro vals hv
    obtain ⟨a, rfl, ea⟩ := inv1 hv
    rfl
  · intro A F room hF
    show (cx_parse w h₀ A F).W (execs (bd_parse w).1 (cx_parse w h₀ A F).env) _ _ _
    have hlen := len_glob b
    refine s_cons ?_
    repeat walk_at "w"
    refine if_f ?_ ?_
    · rw [Bool.not_eq_false', decide_eq_true_eq]
      show S (cut none (some ((3 : Nat) : Int)) x) = _
      rw [cut_to, hx]; rfl
    repeat walk_at "w"
    have e1 : S (cut (some 3) (some 5) (L (S x))) = S ((x.drop 3).take 2) := by
      show S (cut (some ((3 : Nat) : Int)) (some ((5 : Nat) : Int)) x) = _
      rw [cut_nn]
    refine if_b (fun h => ?_) fun h => ?_
    · rw [Bool.not_eq_true', decide_eq_false_iff_not, e1] at h
      repeat walk_at "w"
      intro v' hv
      refine ⟨rfl, ?_⟩
      show er v' = _
      rw [hv]
      unfold parse
      rw [if_neg (fun q => h (by rw [q]; rfl))]
      rfl
    · rw [Bool.not_eq_false', decide_eq_true_eq, e1] at h
      have h2 : (x.drop 3).take 2 = [32, 34] := S_inj h
      have h5 : 5 ≤ x.length := by
        have := congrArg List.length h2
        simp at this
        omega
      have ep : parse x = pq (x.drop 5) := by unfold parse; rw [if_pos h2]
      repeat walk_at "w"
      refine s_while (PrsSt x σ) (x.length - 5)
        ⟨rfl, 5, [], rfl, h5, rfl, rfl, rfl, rfl, rfl, Nat.zero_le _⟩ ?_
      rintro n m₁ _ ⟨rfl, i, d, rfl, hi, h1, h2, h3, h4, h5, h6⟩
      repeat walk_at "w"
      refine if_b (fun h => ?_) fun h => ?_
      · rw [decide_eq_true_eq, S_len] at h
        have hlt : i < x.length := by omega
        obtain ⟨c, hc⟩ : ∃ c, x[i]? = some c := ⟨_, List.getElem?_eq_getElem hlt⟩
        refine s_cons ?_
        repeat walk_at "w"
        refine ⟨got_str, o_getn (c := c) hc (by walk_at "sz") ?_⟩
        repeat walk_at "w"
        have hd := drop_at hc
        refine if_b (fun hq => ?_) fun hq => ?_
        · rw [decide_eq_true_eq] at hq
          have hc34 : c = 34 := by have := S_inj (b := [34]) hq; simpa using this
          subst hc34
          repeat walk_at "w"
          refine if_b (fun hq2 => ?_) fun hq2 => ?_
          · rw [decide_eq_true_eq, S_len] at hq2
            repeat walk_at "w"
            have e9 : x.drop (i + 1) = [] := List.drop_of_length_le (by omega)
            intro v' hv
            refine ⟨rfl, ?_⟩
            show er v' = _
            rw [hv, ep, ← h5, hd, e9]
            simp [pq]
          · rw [decide_eq_false_iff_not, S_len] at hq2
            have hlt2 : i + 1 < x.length := by omega
            obtain ⟨c, hc2⟩ : ∃ c, x[i + 1]? = some c := ⟨_, List.getElem?_eq_getElem hlt2⟩
            have hd2 := drop_at hc2
            repeat walk_at "w"
            refine ⟨got_str, o_getn (c := c) (i := i + 1) hc2 (by walk_at "sz") ?_⟩
            repeat walk_at "w"
            refine if_b (fun hq3 => ?_) fun hq3 => ?_
            · have hc3 : c ≠ 34 := fun q => by subst q; simp at hq3; exact hq3 rfl
              repeat walk_at "w"
              intro v' hv
              refine ⟨rfl, ?_⟩
              show er v' = _
              rw [hv, ep, ← h5, hd, pq_end (by intro z hz; rw [hd2] at hz; simp at hz; rw [← hz]; exact hc3)]
              simp
            · have hc3 : c = 34 := by
                have q : S [c] = Str.ofString "\"" := by simpa using hq3
                have := S_inj (b := [34]) q; simpa using this
              subst hc3
              repeat walk_at "w"
              exact ⟨x.length - (i + 2), by omega, rfl, i + 2, d ++ [34], rfl, by omega, h1, rfl, h3, rfl, by rw [← h5, hd, hd2, pq_qq]; simp, by simp; omega⟩
        · have hc34 : c ≠ 34 := fun q => by subst q; simp at hq; exact hq rfl
          repeat walk_at "w"
          exact ⟨x.length - (i + 1), stepLt (by assumption), rfl, i + 1, d ++ [c], rfl, by omega, h1, rfl, h3, rfl, by rw [← h5, hd, pq_ne hc34]; simp, by simp; omega⟩
      · rw [decide_eq_false_iff_not, S_len] at h
        have hge : i = x.length := by omega
        try dsimp only
        repeat walk_at "w"
        intro v' hv
        refine ⟨rfl, ?_⟩
        show er v' = _
        rw [hv, ep, ← h5, hge, List.drop_of_length_le (Nat.le_refl _)]
        simp [pq]
end
section
def sg : Nat → Nat
  | 0 => 34
  | 1 => 46
  | _ => 124
@[reducible] def rv (p : Nat × Nat) : Str := S [sg p.1, sg p.2]
def bitR (p : Nat × Nat) : Nat := 1 * 2 ^ (3 * p.1 + p.2)
def dueOf (rs : List (Nat × Nat)) : Nat := rs.foldl (fun d p => d ||| bitR p) 0
def met1 (due s p : Nat) : Nat := s / 128 ||| ((s % 128) * 2 ^ p &&& due)
def stp1 (due s p : Nat) : Nat := 128 * met1 due s p + (s % 128 ||| 1 * 2 ^ (3 * p))
def runW (due : Nat) (w : List Nat) : Nat := w.foldl (stp1 due) 0
def Wd (k : Nat) (w : List Nat) : Prop := w.length = k ∧ ∀ p ∈ w, p < 3
def Least (due n : Nat) : Prop := (∃ w, Wd n w ∧ runW due w / 128 = due) ∧ ∀ k w, k < n → Wd k w → runW due w / 128 ≠ due
theorem bitR_lt {p : Nat × Nat} (h : p.1 < 3 ∧ p.2 < 3) : bitR p < 512 := by
  obtain ⟨a, b⟩ := p
  obtain ⟨ha, hb⟩ := h
  simp only at ha hb
  have : bitR (a, b) = 2 ^ (3 * a + b) := by show 1 * 2 ^ (3 * a + b) = _; rw [Nat.one_mul]
  rw [this]
  calc 2 ^ (3 * a + b) ≤ 2 ^ 8 := Nat.pow_le_pow_right (by decide) (by omega)
    _ < 512 := by decide
theorem fold_lt : ∀ (rs : List (Nat × Nat)) (d : Nat), (∀ p ∈ rs, p.1 < 3 ∧ p.2 < 3) → d < 512 → rs.foldl (fun d p => d ||| bitR p) d < 512
  | [], d, _, h => h
  | p :: r, d, k, h => fold_lt r _ (fun q hq => k q (.tail _ hq)) (Nat.or_lt_two_pow (n := 9) h (bitR_lt (k p (.head _))))
theorem due_lt {rs : List (Nat × Nat)} (h : ∀ p ∈ rs, p.1 < 3 ∧ p.2 < 3) : dueOf rs < 512 := fold_lt rs 0 h (by decide)
theorem met1_lt {due s p : Nat} (hd : due < 512) (hs : s < 65536) : met1 due s p < 512 :=
  Nat.or_lt_two_pow (n := 9) (by show s / 128 < 512; omega) (Nat.lt_of_le_of_lt Nat.and_le_right hd)
theorem seen_lt {s p : Nat} (hp : p < 3) : (s % 128 ||| 1 * 2 ^ (3 * p)) < 128 :=
  Nat.or_lt_two_pow (n := 7) (Nat.mod_lt _ (by decide)) (by
    rcases (lt3 (a := p) (by assumption)) with rfl | rfl | rfl <;> decide)
theorem stp1_lt {due s p : Nat} (hd : due < 512) (hs : s < 65536) (hp : p < 3) : stp1 due s p < 65536 := by
  have h1 := met1_lt (p := p) hd hs
  have h2 := seen_lt (s := s) hp
  unfold stp1
  omega
abbrev KV := List (Int × Value)
def put1K (due : Nat) (kv : KV) (s p : Nat) : KV := stored kv ((stp1 due s p : Nat) : Int) (.bool true)
def put3K (due : Nat) (kv : KV) (s : Nat) (j : Nat) : KV := (List.range j).foldl (fun kv p => put1K due kv s p) kv
def putsK (due : Nat) (l : List Nat) : KV := l.foldl (fun kv s => put3K due kv s 3) []
theorem mem_stored {kv : KV} {k : Int} {v : Value} {x : Int} : x ∈ (stored kv k v).map (·.1) ↔ x ∈ kv.map (·.1) ∨ x = k := by
  unfold stored
  split
  · rename_i h
    obtain ⟨p, hp, e⟩ := List.any_eq_true.mp h
    have e := of_decide_eq_true e
    have : (kv.map fun q : Int × Value => if q.1 = k then (q.1, v) else q).map (·.1) = kv.map (·.1) := by
      rw [List.map_map]
      apply List.map_congr_left
      intro q hq
      simp only [Function.comp]
      split
      · rfl
      · rfl
    constructor
    · intro hx
      left
      first
        | (rw [this] at hx; exact hx)
        | (rw [← this]; simpa using hx)
    · rintro (hx | rfl)
      · first
          | (rw [this]; exact hx)
          | (rw [← this] at hx; simpa using hx)
      · have hx : x ∈ kv.map (·.1) := List.mem_map.mpr ⟨p, hp, e⟩
        first
          | (rw [this]; exact hx)
          | (rw [← this] at hx; simpa using hx)
  · simp
theorem len_stored {kv : KV} {k : Int} {v : Value} : (stored kv k v).length ≤ kv.length + 1 := by
  unfold stored
  split <;> simp
theorem put3K_succ (due : Nat) (kv : KV) (s j : Nat) : put3K due kv s (j + 1) = put1K due (put3K due kv s j) s j := by
  unfold put3K
  rw [List.range_succ, List.foldl_append]; rfl
theorem mem_put3K {due : Nat} {kv : KV} {s : Nat} {x : Int} : ∀ {j : Nat}, x ∈ (put3K due kv s j).map (·.1) ↔ x ∈ kv.map (·.1) ∨ ∃ p, p < j ∧ x = ((stp1 due s p : Nat) : Int)
  | 0 => by simp [put3K]
  | j + 1 => by
    rw [put3K_succ]
    unfold put1K
    rw [mem_stored, mem_put3K]
    constructor
    · rintro ((h | ⟨p, hp, e⟩) | e)
      · exact .inl h
      · exact .inr ⟨p, by omega, e⟩
      · exact .inr ⟨j, by omega, e⟩
    · rintro (h | ⟨p, hp, e⟩)
      · exact .inl (.inl h)
      · by_cases q : p = j
        · subst q; exact .inr e
        · exact .inl (.inr ⟨p, by omega, e⟩)
theorem len_put3K {due : Nat} {kv : KV} {s : Nat} : ∀ {j : Nat}, (put3K due kv s j).length ≤ kv.length + j
  | 0 => by simp [put3K]
  | j + 1 => by
    rw [put3K_succ]
    have := len_put3K (due := due) (kv := kv) (s := s) (j := j)
    have h2 := len_stored (kv := put3K due kv s j) (k := ((stp1 due s j : Nat) : Int)) (v := .bool true)
    unfold put1K
    omega
theorem putsK_snoc (due : Nat) (l : List Nat) (s : Nat) : putsK due (l ++ [s]) = put3K due (putsK due l) s 3 := by
  unfold putsK
  rw [List.foldl_append]; rfl
theorem putsK_mem {due : Nat} {x : Int} : ∀ (l acc : List Nat), x ∈ (l.foldl (fun kv s => put3K due kv s 3) (putsK due acc)).map (·.1) ↔ x ∈ (putsK due acc).map (·.1) ∨ ∃ s ∈ l, ∃ p, p < 3 ∧ x = ((stp1 due s p : Nat) : Int)
  | [], acc => by simp
  | s :: r, acc => by
    rw [List.foldl_cons, ← putsK_snoc, putsK_mem r (acc ++ [s]), putsK_snoc, mem_put3K]
    constructor
    · rintro ((h | ⟨p, hp, e⟩) | ⟨t, ht, h⟩)
      · exact .inl h
      · exact .inr ⟨s, .head _, p, hp, e⟩
      · exact .inr ⟨t, .tail _ ht, h⟩
    · rintro (h | ⟨t, ht, h⟩)
      · exact .inl (.inl h)
      · rcases List.mem_cons.mp ht with rfl | ht
        · exact .inl (.inr h)
        · exact .inr ⟨t, ht, h⟩
theorem mem_putsK {due : Nat} {x : Int} (l : List Nat) : x ∈ (putsK due l).map (·.1) ↔ ∃ s ∈ l, ∃ p, p < 3 ∧ x = ((stp1 due s p : Nat) : Int) := by
  have := putsK_mem (due := due) (x := x) l []
  simpa [putsK] using this
theorem putsK_len {due : Nat} : ∀ (l acc : List Nat), (l.foldl (fun kv s => put3K due kv s 3) (putsK due acc)).length ≤ (putsK due acc).length + 3 * l.length
  | [], acc => by simp
  | s :: r, acc => by
    rw [List.foldl_cons, ← putsK_snoc]
    have h1 := putsK_len (due := due) r (acc ++ [s])
    have h2 := len_put3K (due := due) (kv := putsK due acc) (s := s) (j := 3)
    rw [putsK_snoc] at h1 ⊢
    rw [List.length_cons]
    omega
theorem len_putsK {due : Nat} (l : List Nat) : (putsK due l).length ≤ 3 * l.length := by
  have := putsK_len (due := due) l []
  simpa [putsK] using this
theorem keys_nat {kv : KV} (h : ∀ x ∈ kv.map (·.1), ∃ n : Nat, x = (n : Int)) : ∃ K : List Nat, kv.map (fun p => nv p.1) = K.map tv ∧ (∀ n, n ∈ K ↔ (n : Int) ∈ kv.map (·.1)) ∧ K.length = kv.length := by
  refine ⟨kv.map fun p => p.1.toNat, ?_, fun n => ?_, by simp⟩
  · rw [List.map_map]
    apply List.map_congr_left
    intro p hp
    obtain ⟨n, e⟩ := h p.1 (List.mem_map_of_mem hp)
    show Value.int p.1 0 = Value.int ((p.1.toNat : Nat) : Int) 0
    rw [e]; rfl
  · simp only [List.mem_map]
    constructor
    · rintro ⟨p, hp, e⟩
      obtain ⟨m, e2⟩ := h p.1 (List.mem_map_of_mem hp)
      exact ⟨p, hp, by omega⟩
    · rintro ⟨p, hp, e⟩
      exact ⟨p, hp, by omega⟩
def Lev (due k : Nat) (K : List Nat) : Prop := (∀ s, s ∈ K ↔ ∃ w, Wd k w ∧ runW due w = s) ∧ K.length ≤ 3 ^ k
theorem Lev.zero (due : Nat) : Lev due 0 [0] := by
  refine ⟨fun s => ?_, by decide⟩
  constructor
  · intro h
    obtain rfl := List.mem_singleton.mp h
    exact ⟨[], ⟨rfl, fun p h => nomatch h⟩, rfl⟩
  · rintro ⟨w, ⟨h1, _⟩, rfl⟩
    obtain rfl := List.length_eq_zero_iff.mp h1
    exact List.mem_singleton.mpr rfl
theorem Lev.next {due k : Nat} {K K' : List Nat} (h : Lev due k K) (hm : ∀ n, n ∈ K' ↔ (n : Int) ∈ (putsK due K).map (·.1)) (hl : K'.length = (putsK due K).length) : Lev due (k + 1) K' := by
  refine ⟨fun s => ?_, ?_⟩
  · rw [hm, mem_putsK]
    constructor
    · rintro ⟨t, ht, p, hp, e⟩
      obtain ⟨w, ⟨h1, h2⟩, rfl⟩ := (h.1 t).mp ht
      refine ⟨w ++ [p], ⟨by simp [h1], fun q hq => ?_⟩, ?_⟩
      · rcases List.mem_append.mp hq with hq | hq
        · exact h2 q hq
        · obtain rfl := List.mem_singleton.mp hq; exact hp
      · unfold runW at e ⊢
        rw [List.foldl_append]
        show stp1 due _ p = s
        omega
    · rintro ⟨w, ⟨h1, h2⟩, rfl⟩
      have hne : w ≠ [] := fun q => by rw [q] at h1; simp at h1
      have e := List.dropLast_concat_getLast hne
      refine ⟨runW due w.dropLast, (h.1 _).mpr ⟨_, ⟨by rw [List.length_dropLast, h1]; rfl, fun p hp => h2 p (List.dropLast_subset _ hp)⟩, rfl⟩, w.getLast hne, h2 _ (List.getLast_mem hne), ?_⟩
      conv => lhs; rw [← e]
      unfold runW
      rw [List.foldl_append]; rfl
  · have := len_putsK (due := due) K
    have h2 := h.2
    rw [Nat.pow_succ]
    omega
theorem run_lt {due : Nat} (hd : due < 512) : ∀ {w : List Nat} {s : Nat}, s < 65536 → (∀ p ∈ w, p < 3) → w.foldl (stp1 due) s < 65536
  | [], s, h, _ => h
  | p :: r, s, h, k => run_lt hd (w := r) (stp1_lt hd h (k p (.head _))) fun q hq => k q (.tail _ hq)
theorem Lev.lt {due k : Nat} {K : List Nat} (hd : due < 512) (h : Lev due k K) : ∀ s ∈ K, s < 65536 := fun s hs => by
  obtain ⟨w, ⟨_, h2⟩, rfl⟩ := (h.1 s).mp hs
  exact run_lt hd (by decide) h2
end
section
local macro_rules | `(tactic| walk_at "o") => `(tactic| first | with_reducible refine o_addn ?_ | with_reducible refine o_iaddn ?_ | with_reducible refine o_andn ?_ | with_reducible refine o_orn ?_ | with_reducible refine o_iorn ?_)
local macro_rules | `(tactic| walk_at "e") => `(tactic| ((with_reducible show Cx.V _ (eval (Expr.Dict [] [] _) _) _ _ _); refine v_dict0i ?_))
def LayO (y : AO) (K : List Nat) : Prop := y = .list (K.map tv) ∨ ∃ kvs ep, y = .dint kvs ep ∧ kvs.map (fun p => nv p.1) = K.map tv
theorem iters_lay {prog : Program} {w : World} {h₀ : Heap} {A : Around} (hp : Past h₀) {l : Addr} {y : AO} {K : List Nat} (h : LayO y K) : Iters prog w h₀ A (.ref l) (K.map tv) (fun σ => σ l = some y) := by
  rcases h with rfl | ⟨kvs, ep, rfl, e⟩
  · exact iters_list
  · rw [← e]; exact iters_dicti hp
theorem sg_index {a : Nat} (h : a < 3) : ∃ rest, Builtin.Str.occurrences ("\".|" : Str) (S [sg a]) 0 ("\".|" : Str).length 1 = a :: rest := by
  rcases (lt3 (a := a) (by assumption)) with rfl | rfl | rfl <;> exact ⟨[], by kernel_rfl⟩
noncomputable def ob_lle (w : World) : {o // (K1 w).lookup 257 = some o} := ⟨_, rfl⟩
noncomputable def fd_lle (w : World) : {fd // (ob_lle w).1.data = .func fd} := ⟨_, rfl⟩
noncomputable def bd_lle (w : World) : {b // (fd_lle w).1.body = .stmts b} := ⟨_, rfl⟩
noncomputable def cx_lle (w : World) (h₀ : Heap) (A : Around) (L : Addr) : Cx := ⟨prog1, w, h₀, A, callEnvC (fd_lle w).1 L 257, botE⟩
inductive LleB (n due : Nat) (σ₁ : Sto) (j : Nat) (m' : Map) (σ' : Sto) : Prop
  | mk (k) (K) (y) (l) (q1 : j = n - k) (q2 : k ≤ n) (q3 : m' (Str.ofString "due") = some (tv due)) (q4 : m' (Str.ofString "layer") = some (.ref l)) (q5 : m' (Str.ofString "size") = some (tv k)) (q6 : σ' l = some y) (q7 : LayO y K) (q8 : Lev due k K) (q9 : (∀ k' w, k' < k → Wd k' w → runW due w / 128 ≠ due)) (q10 : ∀ a z, σ₁ a = some z → σ' a = some z) : LleB n due σ₁ j m' σ'
inductive LleC (due k : Nat) (l N : Addr) (y : AO) (K : List Nat) (σ₁ : Sto) (i : Nat) (m' : Map) (σ' : Sto) : Prop
  | mk (q1 : m' (Str.ofString "due") = some (tv due)) (q2 : m' (Str.ofString "layer") = some (.ref l)) (q3 : m' (Str.ofString "size") = some (tv k)) (q4 : m' (Str.ofString "after") = some (.ref N)) (q5 : σ' l = some y) (q6 : (∃ ep, σ' N = some (.dint (putsK due (K.take i)) ep))) (q7 : ∀ a z, σ₁ a = some z → σ' a = some z) : LleC due k l N y K σ₁ i m' σ'
inductive LleD (due k s i : Nat) (l N R : Addr) (y : AO) (o : Obj) (K : List Nat) (σ₁ : Sto) (j : Nat) (m' : Map) (σ' : Sto) : Prop
  | mk (q1 : m' (Str.ofString "due") = some (tv due)) (q2 : m' (Str.ofString "layer") = some (.ref l)) (q3 : m' (Str.ofString "size") = some (tv k)) (q4 : m' (Str.ofString "after") = some (.ref N)) (q5 : m' (Str.ofString "state") = some (tv s)) (q6 : m' (Str.ofString "seen") = some (tv (s % 128))) (q7 : σ' R = some (.raw o)) (q8 : σ' l = some y) (q9 : (∃ ep, σ' N = some (.dint (put3K due (putsK due (K.take i)) s j) ep))) (q10 : ∀ a z, σ₁ a = some z → σ' a = some z) : LleD due k s i l N R y o K σ₁ j m' σ'
@[reducible] def LlePost (due : Nat) (σ : Sto) (r : Value) (σ' : Sto) : Prop := (∃ k, r = tv k ∧ Least due k) ∧ ∀ a z, σ a = some z → σ' a = some z
set_option maxHeartbeats 2000000 in
theorem fn_lle {w : World} {h₀ : Heap} (b : Bs w h₀) {σ : Sto} {a : Addr} {rs : List (Nat × Nat)} {n : Nat} (hr : ∀ p ∈ rs, p.1 < 3 ∧ p.2 < 3) (ha : σ a = some (.list (rs.map fun p => sv (rv p)))) (hz : rs.length ≤ 1000)
    (hex : ∃ w, Wd n w ∧ runW (dueOf rs) w / 128 = dueOf rs) (hn : n ≤ 6) : Fn prog1 w h₀ 44 (.ref 257) [.ref a] (LlePost (dueOf rs) σ) botF σ := by
  refine fn_plain (o := (ob_lle w).1) (fd := (fd_lle w).1) (body := (bd_lle w).1) (names := [("rules" : Str)]) (b.X 257 _ (ob_lle w).2) (fd_lle w).2 (bd_lle w).2 (by rfl) b.nolimit (b.code (c := 256) (by rfl) (by rfl) (by rfl)) ?_ (by rfl) (by intro _; rfl) ?_
  · intro vals hv
    obtain ⟨a, rfl, _⟩ := inv1 hv
    rfl
  · intro Ar L0 room hL
    show (cx_lle w h₀ Ar L0).W (execs (bd_lle w).1 (cx_lle w h₀ Ar L0).env) _ _ _
    have hrng : GV (cx_lle w h₀ Ar L0).h₀ "range" (.type "range") := b.built (by rfl) (by rfl) (by decide)
    have hsig : GV (cx_lle w h₀ Ar L0).h₀ "_law_signs" (.str "\".|" 760) := b.glob (by rfl)
    have X : (K1 w).In h₀ := b.X
    have hp := b.past
    have hh : Ar.handled = none := room.2.2 (by decide)
    refine s_cons ?_
    repeat walk_at "w"
    refine s_for ?_
    repeat walk_at "w"
    refine ⟨_, fun σ' => σ' a = some (.list (rs.map fun p => sv (rv p))), fun i m' σ' => σ' = σ ∧ m' (Str.ofString "rules") = some (.ref a) ∧ m' (Str.ofString "due") = some (tv (dueOf (rs.take i))), iters_list, ⟨rfl, rfl, rfl⟩, fun i m σ' h => by rw [h.1]; exact ha, ?_, ?_⟩
    · rintro i v m₁ σ₁ hv ⟨rfl, h1, h2⟩
      rw [List.getElem?_map, Option.map_eq_some_iff] at hv
      obtain ⟨p, hpi, rfl⟩ := hv
      obtain ⟨hpa, hpb⟩ := hr p (List.mem_of_getElem? hpi)
      repeat walk_at "w"
      refine m_str ?_ PySem.F.slot_str_index
      repeat walk_at "w"
      refine ⟨got_str, o_getn (i := 0) (c := sg p.1) (by rfl) (by walk_at "sz") ?_⟩
      repeat walk_at "w"
      obtain ⟨ra, hra⟩ := sg_index hpa
      obtain ⟨rb, hrb⟩ := sg_index hpb
      refine c_index hra ?_
      refine o_muln (a := 3) (b := p.1) (by decide) (by omega) ?_
      repeat walk_at "w"
      refine m_str ?_ PySem.F.slot_str_index
      repeat walk_at "w"
      refine ⟨got_str, o_getn (i := 1) (c := sg p.2) (by rfl) (by walk_at "sz") ?_⟩
      repeat walk_at "w"
      refine c_index hrb ?_
      repeat walk_at "w"
      refine o_shln (a := 1) (b := 3 * p.1 + p.2) (by omega) (by decide) ?_
      repeat walk_at "w"
      refine ⟨rfl, h1, ?_⟩
      show some (tv (dueOf (rs.take i) ||| bitR p)) = _
      rw [List.take_add_one, hpi]
      unfold dueOf
      rw [List.foldl_append]; rfl
    · rintro m₁ σ₁ ⟨rfl, h1, h2⟩
      rw [List.length_map, List.take_length] at h2
      have hd := due_lt hr
      generalize hdue : dueOf rs = due at h2 hd hex ⊢
      repeat walk_at "w"
      refine ⟨by walk_at "sz", fun Y hY => ?_⟩
      repeat walk_at "w"
      refine s_while (LleB n due σ₁) n
        ⟨0, [0], _, Y, rfl, Nat.zero_le _, h2, rfl, rfl, Sto.upd_same _ _ _, .inl rfl, Lev.zero due, fun k' w h => absurd h (Nat.not_lt_zero _), fun a z e => upd_fresh e hY⟩ ?_
      rintro j m₂ σ₂ ⟨k, K, y, l, rfl, hkn, g1, g2, g3, hl, hlay, hlev, hno, hsup⟩
      have hK : K.length ≤ 729 := Nat.le_trans hlev.2 (Nat.le_trans (Nat.pow_le_pow_right (by decide) (show k ≤ 6 by omega)) (by decide))
      repeat walk_at "w"
      refine v_comp (cl := []) (by rfl) ?_
      repeat walk_at "w"
      refine ⟨K.map tv, fun σ' => σ' l = some y, fun i acc σ' => σ' = σ₂ ∧ acc = (K.take i).map fun s => tv (s / 128), iters_lay hp hlay, by walk_at "sz", ⟨rfl, rfl⟩, fun i acc σ' h => by rw [h.1]; exact hl, ?_, ?_⟩
      · rintro Cl i v acc σ3 mc hv ⟨rfl, rfl⟩ hacc
        rw [List.getElem?_map, Option.map_eq_some_iff] at hv
        obtain ⟨s, hsi, rfl⟩ := hv
        refine ifs_nil ?_
        repeat walk_at "w"
        refine o_divn (a := s) (b := 128) (by decide) (by decide) ?_
        refine ⟨rfl, ?_⟩
        rw [List.take_add_one, hsi, List.map_append]; rfl
      · rintro acc σ3 ⟨rfl, rfl⟩ D hD
        rw [List.length_map, List.take_length]
        refine o_notinli (xs := K.map fun s => ((s / 128 : Nat) : Int)) (by rw [Sto.upd_same, List.map_map]; rfl) ?_
        repeat walk_at "w"
        have hlD : l ≠ D := ne_of_none hl hD
        by_cases hin : ∃ s ∈ K, s / 128 = due
        · have hm : (due : Int) ∈ K.map fun s => ((s / 128 : Nat) : Int) := by
            obtain ⟨s, h1, h2⟩ := hin
            exact List.mem_map.mpr ⟨s, h1, by rw [h2]⟩
          refine if_f (by simp only [hm, decide_true, Bool.not_true]) ?_
          repeat walk_at "w"
          intro v' hv'
          refine ⟨⟨k, hv', ?_, hno⟩, fun a z e => upd_fresh (hsup a z e) hD⟩
          obtain ⟨s, h1, h2⟩ := hin
          obtain ⟨w, h3, rfl⟩ := (hlev.1 s).mp h1
          exact ⟨w, h3, h2⟩
        · have hm : ¬ (due : Int) ∈ K.map fun s => ((s / 128 : Nat) : Int) := by
            intro h
            obtain ⟨s, h1, h2⟩ := List.mem_map.mp h
            exact hin ⟨s, h1, by omega⟩
          have hkn2 : k < n := by
            rcases Nat.lt_or_eq_of_le hkn with h | rfl
            · exact h
            · obtain ⟨w, h1, h2⟩ := hex
              exact absurd ⟨_, (hlev.1 _).mpr ⟨w, h1, rfl⟩, h2⟩ hin
          refine if_t (by simp only [hm, decide_false, Bool.not_false]) ?_
          have hl2 : (σ3.upd D (.list ((K.map fun s => tv (s / 128))))) l = some y := upd_fresh hl hD
          have hs2 : ∀ a z, σ₁ a = some z → (σ3.upd D (.list ((K.map fun s => tv (s / 128))))) a = some z := sup_upd hsup (sup_none hsup hD)
          generalize Sto.upd σ3 D (.list ((K.map fun s => tv (s / 128)))) = σ4 at hl2 hs2 ⊢
          repeat walk_at "w"
          intro N hN
          have hlN : l ≠ N := ne_of_none hl2 hN
          have hN1 : σ₁ N = none := sup_none hs2 hN
          repeat walk_at "w"
          refine s_for ?_
          repeat walk_at "w"
          refine ⟨K.map tv, fun σ' => σ' l = some y, LleC due k l N y K σ₁,
            iters_lay hp hlay, ⟨g1, g2, g3, rfl, upd_fresh hl2 hN, ⟨0, Sto.upd_same _ _ _⟩, sup_upd hs2 (sup_none hs2 hN)⟩, fun i m σ' h => by obtain ⟨_, _, _, _, z, _, _⟩ := h; exact z, ?_, ?_⟩
          · rintro i v m₃ σ5 hv ⟨g1, g2, g3, g4, hl3, ⟨ep, hN3⟩, hs3⟩
            rw [List.getElem?_map, Option.map_eq_some_iff] at hv
            obtain ⟨s, hsi, rfl⟩ := hv
            have hsl := hlev.lt hd s (List.mem_of_getElem? hsi)
            have hti : putsK due (K.take (i + 1)) = put3K due (putsK due (K.take i)) s 3 := by rw [List.take_add_one, hsi]; exact putsK_snoc _ _ _
            have hlt : (putsK due (K.take i)).length ≤ 3 * 729 := by
              have := len_putsK (due := due) (K.take i)
              have := List.length_take_le' i K
              omega
            repeat walk_at "w"
            refine o_modn (a := s) (b := 128) (by decide) ?_
            repeat walk_at "w"
            refine s_for ?_
            repeat walk_at "w"
            refine c_range1 fun R o hR hro => ?_
            have hlR : l ≠ R := ne_of_none hl3 hR
            have hNR : N ≠ R := ne_of_none hN3 hR
            refine ⟨_, fun σ' => σ' R = some (.raw o), LleD due k s i l N R y o K σ₁,
              iters_range (n := 3) hro (by rfl) (by rfl), ⟨g1, g2, g3, g4, rfl, rfl, Sto.upd_same _ _ _, upd_fresh hl3 hR, ⟨ep, upd_fresh hN3 hR⟩, sup_upd hs3 (sup_none hs3 hR)⟩, fun j m σ' h => by obtain ⟨_, _, _, _, _, _, z, _, _, _⟩ := h; exact z, ?_, ?_⟩
            · rintro j v m₄ σ6 hv ⟨g1, g2, g3, g4, g5, g6, hR4, hl4, ⟨ep, hN4⟩, hs4⟩
              rw [List.getElem?_map, Option.map_eq_some_iff] at hv
              obtain ⟨j', hj, rfl⟩ := hv
              obtain ⟨hjl, hj⟩ := List.getElem?_eq_some_iff.mp hj
              rw [List.length_range] at hjl
              rw [List.getElem_range] at hj
              subst hj
              have ej : nv ((0 : Int) + (j : Int) * 1) = tv j := by simp
              rw [ej]
              repeat walk_at "w"
              refine o_divn (a := s) (b := 128) (by decide) (by decide) ?_
              repeat walk_at "w"
              refine o_shln (a := s % 128) (b := j) (by omega) (by omega) ?_
              repeat walk_at "w"
              refine o_muln (a := 128) (b := met1 due s j) (by decide) (by have := met1_lt (p := j) hd hsl; omega) ?_
              repeat walk_at "w"
              refine o_muln (a := 3) (b := j) (by decide) (by omega) ?_
              repeat walk_at "w"
              refine o_shln (a := 1) (b := 3 * j) (by omega) (by decide) ?_
              repeat walk_at "w"
              refine set_di (k := ((stp1 due s j : Nat) : Int)) hN4 (by have := len_put3K (due := due) (kv := putsK due (K.take i)) (s := s) (j := j); rw [sizeLine_eq]; omega) fun ep' => ?_
              repeat walk_at "w"
              refine ⟨g1, g2, g3, g4, g5, g6, upd_keep hR4 hN4 (by intro c; cases c), by rw [Sto.upd_ne hlN]; exact hl4, ⟨ep', ?_⟩, fun a z e => by rw [Sto.upd_ne (ne_of_none e hN1)]; exact hs4 a z e⟩
              rw [Sto.upd_same, put3K_succ]; rfl
            · rintro m₄ σ6 ⟨g1, g2, g3, g4, g5, g6, hR4, hl4, ⟨ep, hN4⟩, hs4⟩
              repeat walk_at "w"
              refine ⟨g1, g2, g3, g4, hl4, ⟨ep, ?_⟩, hs4⟩
              rw [hti]; exact hN4
          · rintro m₃ σ5 ⟨g1, g2, g3, g4, hl3, ⟨ep, hN3⟩, hs3⟩
            rw [List.length_map, List.take_length] at hN3
            repeat walk_at "w"
            obtain ⟨K', e1, e2, e3⟩ := keys_nat (kv := putsK due K) (fun x hx => by
              obtain ⟨s, _, p, _, e⟩ := (mem_putsK K).mp hx
              exact ⟨_, e⟩)
            refine ⟨n - (k + 1), by omega, k + 1, K', _, N, rfl, hkn2, g1, rfl, ?_, hN3, .inr ⟨_, ep, rfl, e1⟩, hlev.next e2 e3, ?_, hs3⟩
            · rfl
            · intro k' w hk hw
              rcases Nat.lt_or_eq_of_le (Nat.le_of_lt_succ hk) with h | rfl
              · exact hno k' w h hw
              · intro q
                exact hin ⟨_, (hlev.1 _).mpr ⟨w, hw, rfl⟩, q⟩
end
section
theorem SlotS.upd {σ : Sto} {x dx cl : Addr} {vs vs' : List (Option Value)} (h : SlotS σ x dx cl vs) : SlotS (σ.upd x (.slots cl dx vs')) x dx cl vs' :=
  ⟨Sto.upd_same _ _ _, upd_keep h.2 h.1 (fun c => nomatch c)⟩
theorem SlotS.keep {σ : Sto} {x dx cl d : Addr} {vs : List (Option Value)} {z w : AO} (h : SlotS σ x dx cl vs) (hd : σ d = some z) (h1 : AO.slots cl dx vs ≠ z) (h2 : AO.raw emptyDict ≠ z) : SlotS (σ.upd d w) x dx cl vs :=
  ⟨upd_keep h.1 hd h1, upd_keep h.2 hd h2⟩
theorem SlotS.fresh {σ : Sto} {x dx cl d : Addr} {vs : List (Option Value)} {w : AO} (h : SlotS σ x dx cl vs) (hd : σ d = none) : SlotS (σ.upd d w) x dx cl vs :=
  ⟨upd_fresh h.1 hd, upd_fresh h.2 hd⟩
noncomputable def ob_ninit (w : World) : {o // (K1 w).lookup 53 = some o} := ⟨_, rfl⟩
noncomputable def fd_ninit (w : World) : {fd // (ob_ninit w).1.data = .func fd} := ⟨_, rfl⟩
noncomputable def bd_ninit (w : World) : {b // (fd_ninit w).1.body = .stmts b} := ⟨_, rfl⟩
noncomputable def cx_ninit (w : World) (h₀ : Heap) (A : Around) (L : Addr) : Cx := ⟨prog1, w, h₀, A, callEnvC (fd_ninit w).1 L 53, botE⟩
theorem fn_ninit {w : World} {h₀ : Heap} (b : Bs w h₀) {σ : Sto} {x dx : Addr} (v : Str) (hs : SlotS σ x dx 57 []) :
    Fn prog1 w h₀ 1 (.ref 53) [.ref x, sv v] (fun r σ' => r = .none ∧ ∃ l, σ l = none ∧ SlotS σ' x dx 57 [some (sv v), some (nv 0), some (.ref l)] ∧ σ' l = some (.list []) ∧ ∀ a, a ≠ x → a ≠ l → σ' a = σ a) botF σ := by
  refine fn_plain (o := (ob_ninit w).1) (fd := (fd_ninit w).1) (body := (bd_ninit w).1) (names := [("self" : Str), "node"]) (b.X 53 _ (ob_ninit w).2) (fd_ninit w).2 (bd_ninit w).2 (by rfl) b.nolimit (b.code (c := 52) (by rfl) (by rfl) (by rfl)) ?_ (by rfl) (by intro _; rfl) ?_
  · intro vals hv
    obtain ⟨a, c, rfl, _, _⟩ := inv2 hv
    rfl
  · intro A F room hF
    show (cx_ninit w h₀ A F).W (execs (bd_ninit w).1 (cx_ninit w h₀ A F).env) _ _ _
    have X : (K1 w).In (cx_ninit w h₀ A F).h₀ := b.X
    refine s_cons ?_
    repeat walk_at "w"
    refine a_slotset (k := 0) X hs ?_ (by rfl) (by rfl) (by rfl) (by rfl) (by rfl) (by decide)
    have hs1 := hs.upd (vs' := setSlot [] 0 (sv v))
    repeat walk_at "w"
    refine a_slotset (k := 1) X hs1 ?_ (by rfl) (by rfl) (by rfl) (by rfl) (by rfl) (by decide)
    have hs2 := hs1.upd (vs' := setSlot (setSlot [] 0 (sv v)) 1 (nv 0))
    repeat walk_at "w"
    refine ⟨by walk_at "sz", fun l hl => ?_⟩
    have hs3 := hs2.fresh (w := .list []) hl
    repeat walk_at "w"
    refine a_slotset (k := 2) X hs3 ?_ (by rfl) (by rfl) (by rfl) (by rfl) (by rfl) (by decide)
    have hlx : l ≠ x := fun q => by rw [q, hs2.1] at hl; cases hl
    have hl0 : σ l = none := by
      rw [Sto.upd_ne hlx, Sto.upd_ne hlx] at hl
      exact hl
    repeat walk_at "w"
    refine ⟨rfl, l, hl0, hs3.upd, ?_, fun a h1 h2 => ?_⟩
    · rw [Sto.upd_ne hlx, Sto.upd_same]
    · rw [Sto.upd_ne h1, Sto.upd_ne h2, Sto.upd_ne h1, Sto.upd_ne h1]
structure Gr where
  names : List Str
  np : Str → Int
  su : Str → List Str
  rd : Option (List Str)
  po : Int
  nf : Int
structure Ad where
  x : Addr
  dx : Addr
  d : Addr
  ep : Nat
  ax : Str → Addr
  ad : Str → Addr
  al : Str → Addr
  r : Addr
def Ad.attrs (A : Ad) (g : Gr) : List (Str × Value) := [("_node2info", .ref A.d), ("_ready_nodes", match g.rd with | none => .none | some _ => .ref A.r), ("_npassedout", nv g.po), ("_nfinished", nv g.nf)]
structure SrtAt (A : Ad) (g : Gr) (σ : Sto) : Prop where
  inst : InstS σ A.x A.dx 154 (A.attrs g)
  dict : σ A.d = some (.dstr (g.names.map fun v => (v, .ref (A.ax v))) A.ep)
  node : ∀ v ∈ g.names, SlotS σ (A.ax v) (A.ad v) 57 [some (sv v), some (nv (g.np v)), some (.ref (A.al v))]
  succ : ∀ v ∈ g.names, σ (A.al v) = some (.list ((g.su v).map sv))
  rdy : ∀ rs, g.rd = some rs → σ A.r = some (.list (rs.map sv)) ∧ ∀ v ∈ g.names, A.al v ≠ A.r
  inj : ∀ u ∈ g.names, ∀ v ∈ g.names, A.al u = A.al v → u = v
  nod : g.names.Nodup
def Ad.foot (A : Ad) (g : Gr) (a : Addr) : Prop := a = A.x ∨ a = A.dx ∨ a = A.d ∨ (∃ v ∈ g.names, a = A.ax v ∨ a = A.ad v ∨ a = A.al v) ∨ (g.rd ≠ none ∧ a = A.r)
theorem valueAt_names {names : List Str} {f : Str → Value} {k : Str} : valueAt (names.map fun v => (v, f v)) k = if k ∈ names then some (f k) else none := by
  induction names with
  | nil => rfl
  | cons n r ih =>
    unfold valueAt at ih ⊢
    simp only [List.map_cons, List.find?_cons]
    by_cases h : n = k
    · subst h; simp
    · have h' : k ≠ n := fun q => h q.symm
      simp only [h, decide_false, List.mem_cons, h', false_or]
      exact ih
theorem stored_new {names : List Str} {f : Str → Value} {k : Str} {v : Value} (h : k ∉ names) : stored (names.map fun v => (v, f v)) k v = names.map (fun v => (v, f v)) ++ [(k, v)] := by
  unfold stored
  rw [if_neg]
  simp only [List.any_map, List.any_eq_true, not_exists, not_and]
  intro x hx
  have : x ≠ k := fun q => h (q ▸ hx)
  simp [this]
def Gr.need (g : Gr) (v : Str) : Gr := if v ∈ g.names then g else { g with names := g.names ++ [v], np := fun u => if u = v then 0 else g.np u, su := fun u => if u = v then [] else g.su u }
noncomputable def ob_getn (w : World) : {o // (K1 w).lookup 97 = some o} := ⟨_, rfl⟩
noncomputable def fd_getn (w : World) : {fd // (ob_getn w).1.data = .func fd} := ⟨_, rfl⟩
noncomputable def bd_getn (w : World) : {b // (fd_getn w).1.body = .stmts b} := ⟨_, rfl⟩
noncomputable def cx_getn (w : World) (h₀ : Heap) (A : Around) (L : Addr) : Cx := ⟨prog1, w, h₀, A, callEnvC (fd_getn w).1 L 97, botE⟩
@[reducible] def GetnPost (A : Ad) (g : Gr) (v : Str) (σ : Sto) (r : Value) (σ' : Sto) : Prop := ∃ A' : Ad, A'.x = A.x ∧ A'.dx = A.dx ∧ A'.d = A.d ∧ A'.r = A.r ∧ (∀ u ∈ g.names, A'.ax u = A.ax u ∧ A'.ad u = A.ad u ∧ A'.al u = A.al u) ∧ SrtAt A' (g.need v) σ' ∧ r = .ref (A'.ax v) ∧
      (v ∉ g.names → σ (A'.ax v) = none ∧ σ (A'.ad v) = none ∧ σ (A'.al v) = none) ∧ (∀ a y, σ a = some y → a ≠ A.d → σ' a = some y)
theorem fn_getn {w : World} {h₀ : Heap} (b : Bs w h₀) {σ : Sto} {A : Ad} {g : Gr} (v : Str) (hs : SrtAt A g σ) (hz : g.names.length ≤ 1000) :
    Fn prog1 w h₀ 3 (.ref 97) [.ref A.x, sv v] (GetnPost A g v σ) botF σ := by
  refine fn_plain (o := (ob_getn w).1) (fd := (fd_getn w).1) (body := (bd_getn w).1) (names := [("self" : Str), "node"]) (b.X 97 _ (ob_getn w).2) (fd_getn w).2 (bd_getn w).2 (by rfl) b.nolimit (b.code (c := 96) (by rfl) (by rfl) (by rfl)) ?_ (by rfl) (by intro _; rfl) ?_
  · intro vals hv
    obtain ⟨a, c, rfl, _, _⟩ := inv2 hv
    rfl
  · intro Ar F room hF
    show (cx_getn w h₀ Ar F).W (execs (bd_getn w).1 (cx_getn w h₀ Ar F).env) _ _ _
    have X : (K1 w).In (cx_getn w h₀ Ar F).h₀ := b.X
    have hgi : GV (cx_getn w h₀ Ar F).h₀ "_NodeInfo" (.ref 57) := b.glob (by rfl)
    refine s_cons ?_
    repeat walk_at "w"
    refine a_own X hs.inst (by rfl) ?_ (by rfl) (by rfl) (by rfl) (by rfl) (by rfl)
    repeat walk_at "w"
    refine m_dict hs.dict ?_ PySem.F.slot_dict_get
    repeat walk_at "w"
    refine c_dget b.past hs.dict ?_
    rw [valueAt_names]
    by_cases hv : v ∈ g.names
    · rw [if_pos hv]
      repeat walk_at "w"
      refine if_f (by rfl) ?_
      repeat walk_at "w"
      intro v' hv'
      refine ⟨A, rfl, rfl, rfl, rfl, fun _ _ => ⟨rfl, rfl, rfl⟩, ?_, hv', fun q => absurd hv q, fun a y e _ => e⟩
      unfold Gr.need
      rw [if_pos hv]
      exact hs
    · rw [if_neg hv]
      repeat walk_at "w"
      refine if_t (by rfl) ?_
      refine s_cons ?_
      repeat walk_at "w"
      refine call_fn (k := 2) room (fn_make X (fun _ => .raw emptyDict) (fun d => .slots 57 d []) (fun _ => rfl) (fun d => ⟨#[], rfl, rfl⟩) (fun x dx hx hdx hxd => Fn.mono (fn_ninit b v ⟨Sto.upd_same _ _ _, by rw [Sto.upd_ne (Ne.symm hxd), Sto.upd_same]⟩) fun r σ₁ q => ⟨q.1, ?_⟩) (by rfl) (by rfl) (by rfl))
      obtain ⟨_, l, hl, hsl, hll, hoff⟩ := q
      have hlx : l ≠ x := fun q => by rw [q, Sto.upd_same] at hl; cases hl
      have hldx : l ≠ dx := fun q => by rw [q, Sto.upd_ne (Ne.symm hxd), Sto.upd_same] at hl; cases hl
      have hl0 : σ l = none := by rw [Sto.upd_ne hlx, Sto.upd_ne hldx] at hl; exact hl
      have ne : ∀ {a y c}, σ a = some y → σ c = none → a ≠ c := fun e n q => by rw [q, n] at e; cases e
      have keep : ∀ a y, σ a = some y → σ₁ a = some y := fun a y e => by
        rw [hoff a (ne e hx) (ne e hl0), Sto.upd_ne (ne e hx), Sto.upd_ne (ne e hdx)]
        exact e
      have hi1 : InstS σ₁ A.x A.dx 154 (A.attrs g) := ⟨keep _ _ hs.inst.1, keep _ _ hs.inst.2⟩
      repeat walk_at "w"
      refine a_own X hi1 (by rfl) ?_ (by rfl) (by rfl) (by rfl) (by rfl) (by rfl)
      repeat walk_at "w"
      refine set_d (keep _ _ hs.dict) (by walk_at "sz") fun ep' => ?_
      rw [stored_new hv]
      repeat walk_at "w"
      intro v' hv'
      have hg : g.need v = { g with names := g.names ++ [v], np := fun u => if u = v then 0 else g.np u, su := fun u => if u = v then [] else g.su u } := by
        unfold Gr.need; rw [if_neg hv]
      have une : ∀ {u}, u ∈ g.names → u ≠ v := fun hu q => hv (q ▸ hu)
      have hd1 := keep _ _ hs.dict
      refine ⟨{ A with ep := ep', ax := fun u => if u = v then x else A.ax u, ad := fun u => if u = v then dx else A.ad u, al := fun u => if u = v then l else A.al u }, rfl, rfl, rfl, rfl, fun u hu => ⟨if_neg (une hu), if_neg (une hu), if_neg (une hu)⟩, ?_, ?_, fun _ => ?_, fun a y e hne => ?_⟩
      · rw [hg]
        refine ⟨⟨upd_keep hi1.1 hd1 (fun c => nomatch c), upd_keep hi1.2 hd1 (fun c => nomatch c)⟩, ?_, fun u hu => ?_, fun u hu => ?_, fun rs hrs => ?_, fun u hu u' hu' e => ?_, ?_⟩
        · rw [Sto.upd_same]
          simp only [List.map_append, List.map_cons, List.map_nil, if_true]
          congr 3
          refine List.map_congr_left fun u hu => ?_
          rw [if_neg (une hu)]
        · rcases List.mem_append.mp hu with hu | hu
          · have q := hs.node u hu
            simp only [if_neg (une hu)]
            exact ⟨upd_keep (keep _ _ q.1) hd1 (fun c => nomatch c), upd_keep (keep _ _ q.2) hd1 (fun c => nomatch c)⟩
          · rw [List.mem_singleton] at hu
            subst hu
            simp only [if_true]
            exact hsl.keep hd1 (fun c => nomatch c) (fun c => nomatch c)
        · rcases List.mem_append.mp hu with hu | hu
          · simp only [if_neg (une hu)]
            exact upd_keep (keep _ _ (hs.succ u hu)) hd1 (fun c => nomatch c)
          · rw [List.mem_singleton] at hu
            subst hu
            simp only [if_true]
            exact upd_keep hll hd1 (fun c => nomatch c)
        · obtain ⟨q1, q2⟩ := hs.rdy rs hrs
          refine ⟨upd_keep (keep _ _ q1) hd1 (fun c => nomatch c), fun u hu => ?_⟩
          rcases List.mem_append.mp hu with hu | hu
          · simp only [if_neg (une hu)]
            exact q2 u hu
          · rw [List.mem_singleton] at hu
            subst hu
            simp only [if_true]
            exact Ne.symm (ne q1 hl0)
        · have al_ne : ∀ u ∈ g.names, A.al u ≠ l := fun u hu => ne (hs.succ u hu) hl0
          rcases List.mem_append.mp hu with h1 | h1 <;> rcases List.mem_append.mp hu' with h2 | h2
          · simp only [if_neg (une h1), if_neg (une h2)] at e
            exact hs.inj u h1 u' h2 e
          · rw [List.mem_singleton] at h2
            simp only [if_neg (une h1), if_pos h2] at e
            exact absurd e (al_ne u h1)
          · rw [List.mem_singleton] at h1
            simp only [if_neg (une h2), if_pos h1] at e
            exact absurd e.symm (al_ne u' h2)
          · rw [List.mem_singleton] at h1 h2
            rw [h1, h2]
        · rw [List.nodup_append]
          exact ⟨hs.nod, by simp, fun a ha c hc q => by rw [List.mem_singleton] at hc; exact hv (by rw [← hc, ← q]; exact ha)⟩
      · show er v' = _
        rw [hv']
        simp only [if_true]
      · simp only [if_true]
        exact ⟨hx, hdx, hl0⟩
      · rw [Sto.upd_ne hne]
        exact keep _ _ e
end
section
def Gr.setNp (g : Gr) (v : Str) (k : Int) : Gr := { g with np := fun u => if u = v then k else g.np u }
def Gr.push (g : Gr) (p v : Str) : Gr := { g with su := fun u => if u = p then g.su p ++ [v] else g.su u }
def Gr.addp (v : Str) (g : Gr) (p : Str) : Gr := (g.need p).push p v
def Gr.add (g : Gr) (v : Str) (ps : List Str) : Gr := ps.foldl (Gr.addp v) ((g.need v).setNp v ((g.need v).np v + ps.length))
theorem Gr.need_mem (g : Gr) (v : Str) : v ∈ (g.need v).names := by
  unfold Gr.need
  split
  · assumption
  · simp
theorem Gr.need_sub {g : Gr} {v u : Str} (h : u ∈ g.names) : u ∈ (g.need v).names := by
  unfold Gr.need
  split
  · exact h
  · simp [h]
theorem Gr.need_len (g : Gr) (v : Str) : (g.need v).names.length ≤ g.names.length + 1 := by
  unfold Gr.need
  split <;> simp
theorem Gr.need_rd (g : Gr) (v : Str) : (g.need v).rd = g.rd := by unfold Gr.need; split <;> rfl
section
variable {A : Ad} {g : Gr} {σ : Sto}
theorem SrtAt.ax_inj (h : SrtAt A g σ) {u v : Str} (hu : u ∈ g.names) (hv : v ∈ g.names) (e : A.ax u = A.ax v) : u = v := by
  have h1 := (h.node u hu).1
  have h2 := (h.node v hv).1
  rw [e, h2] at h1
  injection h1 with h1
  injection h1 with _ _ h1
  simp at h1
  exact h1.1.symm
theorem SrtAt.setNp (h : SrtAt A g σ) {v : Str} (hv : v ∈ g.names) (k : Int) : SrtAt A (g.setNp v k) (σ.upd (A.ax v) (.slots 57 (A.ad v) [some (sv v), some (nv k), some (.ref (A.al v))])) := by
  have hx := (h.node v hv).1
  refine ⟨⟨upd_keep h.inst.1 hx (fun c => nomatch c), upd_keep h.inst.2 hx (fun c => nomatch c)⟩, upd_keep h.dict hx (fun c => nomatch c), fun u hu => ?_, fun u hu => upd_keep (h.succ u hu) hx (fun c => nomatch c),
    fun rs hrs => ⟨upd_keep (h.rdy rs hrs).1 hx (fun c => nomatch c), (h.rdy rs hrs).2⟩, h.inj, h.nod⟩
  have hu' : u ∈ g.names := hu
  by_cases q : u = v
  · subst q
    have : (g.setNp u k).np u = k := if_pos rfl
    rw [this]
    exact ⟨Sto.upd_same _ _ _, upd_keep (h.node u hu').2 hx (fun c => nomatch c)⟩
  · have : (g.setNp v k).np u = g.np u := if_neg q
    rw [this]
    exact ⟨by rw [Sto.upd_ne (fun e => q (h.ax_inj hu' hv e))]; exact (h.node u hu').1, upd_keep (h.node u hu').2 hx (fun c => nomatch c)⟩
theorem SrtAt.push (h : SrtAt A g σ) {p : Str} (hp : p ∈ g.names) (v : Str) : SrtAt A (g.push p v) (σ.upd (A.al p) (.list ((g.su p).map sv ++ [sv v]))) := by
  have hx := h.succ p hp
  refine ⟨⟨upd_keep h.inst.1 hx (fun c => nomatch c), upd_keep h.inst.2 hx (fun c => nomatch c)⟩, upd_keep h.dict hx (fun c => nomatch c), fun u hu => (h.node u hu).keep hx (fun c => nomatch c) (fun c => nomatch c), fun u hu => ?_,
    fun rs hrs => ⟨by rw [Sto.upd_ne (Ne.symm ((h.rdy rs hrs).2 p hp))]; exact (h.rdy rs hrs).1, (h.rdy rs hrs).2⟩, h.inj, h.nod⟩
  have hu' : u ∈ g.names := hu
  by_cases q : u = p
  · subst q
    have : (g.push u v).su u = g.su u ++ [v] := if_pos rfl
    rw [this, List.map_append, Sto.upd_same]
    rfl
  · have : (g.push p v).su u = g.su u := if_neg q
    rw [this, Sto.upd_ne (fun e => q (h.inj u hu' p hp e))]
    exact h.succ u hu'
theorem SrtAt.fresh (h : SrtAt A g σ) {d : Addr} (hd : σ d = none) (w : AO) : SrtAt A g (σ.upd d w) :=
  ⟨⟨upd_fresh h.inst.1 hd, upd_fresh h.inst.2 hd⟩, upd_fresh h.dict hd, fun u hu => (h.node u hu).fresh hd, fun u hu => upd_fresh (h.succ u hu) hd, fun rs hrs => ⟨upd_fresh (h.rdy rs hrs).1 hd, (h.rdy rs hrs).2⟩, h.inj, h.nod⟩
end
structure Ext (A : Ad) (g : Gr) (σ : Sto) (A' : Ad) (g' : Gr) (σ' : Sto) : Prop where
  x : A'.x = A.x
  at_ : SrtAt A' g' σ'
  foot : ∀ a, A'.foot g' a → A.foot g a ∨ σ a = none
  off : ∀ a y, σ a = some y → ¬ A.foot g a → σ' a = some y
theorem Ext.trans {A A1 A2 : Ad} {g g1 g2 : Gr} {σ σ1 σ2 : Sto} (p : Ext A g σ A1 g1 σ1) (q : Ext A1 g1 σ1 A2 g2 σ2) : Ext A g σ A2 g2 σ2 := by
  refine ⟨q.x.trans p.x, q.at_, fun a f => ?_, fun a y e n => ?_⟩
  · rcases q.foot a f with f1 | n1
    · exact p.foot a f1
    · by_cases f0 : A.foot g a
      · exact .inl f0
      · cases e : σ a with
        | none => exact .inr rfl
        | some y => have := p.off a y e f0; rw [n1] at this; cases this
  · refine q.off a y (p.off a y e n) fun f1 => ?_
    rcases p.foot a f1 with f0 | n0
    · exact n f0
    · rw [n0] at e; cases e
theorem Ext.fresh {A : Ad} {g : Gr} {σ : Sto} (h : SrtAt A g σ) {d : Addr} (hd : σ d = none) (w : AO) : Ext A g σ A g (σ.upd d w) :=
  ⟨rfl, h.fresh hd w, fun _ f => .inl f, fun a y e _ => upd_fresh e hd⟩
theorem Ext.setNp {A : Ad} {g : Gr} {σ : Sto} (h : SrtAt A g σ) {v : Str} (hv : v ∈ g.names) (k : Int) : Ext A g σ A (g.setNp v k) (σ.upd (A.ax v) (.slots 57 (A.ad v) [some (sv v), some (nv k), some (.ref (A.al v))])) :=
  ⟨rfl, h.setNp hv k, fun _ f => .inl f, fun a y e n => by
    rw [Sto.upd_ne (fun q => n (by rw [q]; exact .inr (.inr (.inr (.inl ⟨v, hv, .inl rfl⟩)))))]
    exact e⟩
theorem Ext.push {A : Ad} {g : Gr} {σ : Sto} (h : SrtAt A g σ) {p : Str} (hp : p ∈ g.names) (v : Str) : Ext A g σ A (g.push p v) (σ.upd (A.al p) (.list ((g.su p).map sv ++ [sv v]))) :=
  ⟨rfl, h.push hp v, fun _ f => .inl f, fun a y e n => by
    rw [Sto.upd_ne (fun q => n (by rw [q]; exact .inr (.inr (.inr (.inl ⟨p, hp, .inr (.inr rfl)⟩)))))]
    exact e⟩
theorem Ext.need {A A' : Ad} {g : Gr} {σ σ' : Sto} {v : Str} (e1 : A'.x = A.x) (e2 : A'.dx = A.dx) (e3 : A'.d = A.d) (e4 : A'.r = A.r) (e5 : ∀ u ∈ g.names, A'.ax u = A.ax u ∧ A'.ad u = A.ad u ∧ A'.al u = A.al u) (hs : SrtAt A' (g.need v) σ')
    (hn : v ∉ g.names → σ (A'.ax v) = none ∧ σ (A'.ad v) = none ∧ σ (A'.al v) = none) (hk : ∀ a y, σ a = some y → a ≠ A.d → σ' a = some y) : Ext A g σ A' (g.need v) σ' := by
  refine ⟨e1, hs, fun a f => ?_, fun a y e n => hk a y e fun q => n (.inr (.inr (.inl q)))⟩
  rcases f with rfl | rfl | rfl | ⟨u, hu, f⟩ | ⟨hr, rfl⟩
  · exact .inl (.inl e1)
  · exact .inl (.inr (.inl e2))
  · exact .inl (.inr (.inr (.inl e3)))
  · by_cases q : u ∈ g.names
    · obtain ⟨q1, q2, q3⟩ := e5 u q
      rw [q1, q2, q3] at f
      exact .inl (.inr (.inr (.inr (.inl ⟨u, q, f⟩))))
    · have : u = v := by
        unfold Gr.need at hu
        split at hu
        · exact absurd hu q
        · rcases List.mem_append.mp hu with h | h
          · exact absurd h q
          · simpa using h
      subst this
      obtain ⟨q1, q2, q3⟩ := hn q
      rcases f with rfl | rfl | rfl
      · exact .inr q1
      · exact .inr q2
      · exact .inr q3
  · exact .inl (.inr (.inr (.inr (.inr ⟨by rw [Gr.need_rd] at hr; exact hr, e4⟩))))
theorem Ext.left {A A' : Ad} {g g' : Gr} {σ σ' : Sto} (p : Ext A g σ A' g' σ') {F : Addr → Prop} (hF : ∀ a, A.foot g a → F a) : (∀ a, A'.foot g' a → F a ∨ σ a = none) ∧ ∀ a y, σ a = some y → ¬ F a → σ' a = some y :=
  ⟨fun a f => (p.foot a f).imp_left (hF a), fun a y e n => p.off a y e fun f => n (hF a f)⟩
theorem addp_len (v : Str) : ∀ (l : List Str) (g : Gr), (l.foldl (Gr.addp v) g).names.length ≤ g.names.length + l.length
  | [], g => Nat.le_refl _
  | p :: r, g => by
    have h1 := addp_len v r (g.addp v p)
    have h2 : (g.addp v p).names.length ≤ g.names.length + 1 := g.need_len p
    simp only [List.foldl_cons, List.length_cons]
    omega
theorem need_su {g : Gr} {v : Str} (u : Str) : ((g.need v).su u).length ≤ (g.su u).length := by
  unfold Gr.need
  split
  · exact Nat.le_refl _
  · show (if u = v then [] else g.su u).length ≤ _
    split
    · exact Nat.zero_le _
    · exact Nat.le_refl _
theorem addp_su (v u : Str) : ∀ (l : List Str) (g : Gr), ((l.foldl (Gr.addp v) g).su u).length ≤ (g.su u).length + l.length
  | [], g => Nat.le_refl _
  | p :: r, g => by
    have h1 := addp_su v u r (g.addp v p)
    have h2 : ((g.addp v p).su u).length ≤ (g.su u).length + 1 := by
      show (if u = p then (g.need p).su p ++ [v] else (g.need p).su u).length ≤ _
      have h3 := need_su (g := g) (v := p) u
      split
      · rename_i q; subst q; rw [List.length_append, List.length_singleton]; omega
      · omega
    simp only [List.foldl_cons, List.length_cons]
    omega
def Srt (x : Addr) (F : Addr → Prop) (g : Gr) (σ : Sto) : Prop := ∃ A : Ad, A.x = x ∧ SrtAt A g σ ∧ ∀ a, A.foot g a → F a
def Left (F F' : Addr → Prop) (σ σ' : Sto) : Prop := (∀ a, F' a → F a ∨ σ a = none) ∧ ∀ a y, σ a = some y → ¬ F a → σ' a = some y
noncomputable def ob_add (w : World) : {o // (K1 w).lookup 104 = some o} := ⟨_, rfl⟩
noncomputable def fd_add (w : World) : {fd // (ob_add w).1.data = .func fd} := ⟨_, rfl⟩
noncomputable def bd_add (w : World) : {b // (fd_add w).1.body = .stmts b} := ⟨_, rfl⟩
noncomputable def cx_add (w : World) (h₀ : Heap) (A : Around) (L : Addr) : Cx := ⟨prog1, w, h₀, A, callEnvC (fd_add w).1 L 104, botE⟩
theorem bind_add (w : World) (a b : Value) (ps : List Value) : bindArgs (fd_add w).1 ⟨a :: b :: ps, []⟩ = (newTuple ps >>= fun t => pure [(("self" : Str), a), ("node", b), ("predecessors", t)]) := by
  cases ps with
  | nil => rfl
  | cons p r => rfl
inductive AddSt (A : Ad) (g : Gr) (σ : Sto) (t : Addr) (v : Str) (ps : List Str) (i : Nat) (m' : Map) (σ' : Sto) : Prop
  | mk (q1 : m' (Str.ofString "self") = some (.ref A.x)) (q2 : m' (Str.ofString "node") = some (sv v)) (q3 : σ' t = some (.tup (ps.map sv))) (A') (q4 : Ext A g σ A' ((ps.take i).foldl (Gr.addp v) ((g.need v).setNp v ((g.need v).np v + ps.length))) σ') : AddSt A g σ t v ps i m' σ'
@[reducible] def AddPost (x : Addr) (F : Addr → Prop) (g : Gr) (v : Str) (ps : List Str) (σ : Sto) (r : Value) (σ' : Sto) : Prop := r = .none ∧ ∃ F', Srt x F' (g.add v ps) σ' ∧ Left F F' σ σ'
theorem fn_add {w : World} {h₀ : Heap} (b : Bs w h₀) {σ : Sto} {x : Addr} {F : Addr → Prop} {g : Gr} (v : Str) (ps : List Str) (hs : Srt x F g σ) (hr : g.rd = none) (hz : g.names.length + ps.length ≤ 900) (hsz : ∀ u, (g.su u).length ≤ 100000) :
    Fn prog1 w h₀ 44 (.ref 104) ([.ref x, sv v] ++ ps.map sv) (AddPost x F g v ps σ) botF σ := by
  refine fn_star (o := (ob_add w).1) (fd := (fd_add w).1) (body := (bd_add w).1) (names := [("self" : Str), "node"]) (vn := "predecessors") (b.X 104 _ (ob_add w).2) (fd_add w).2 (bd_add w).2 (by rfl) b.nolimit (b.code (c := 103) (by rfl) (by rfl) (by rfl)) (by rw [List.length_map, sizeLine_eq]; omega) ?_ (by rfl) (by intro _; rfl) ?_
  · intro vals rest hv
    obtain ⟨a, c, rfl, _, _⟩ := inv2 hv
    exact bind_add w a c rest
  · intro Ar L t room hL ht htL
    show (cx_add w h₀ Ar L).W (execs (bd_add w).1 (cx_add w h₀ Ar L).env) _ _ _
    obtain ⟨A, rfl, hs, hF⟩ := hs
    have X : (K1 w).In (cx_add w h₀ Ar L).h₀ := b.X
    have hlen := len_glob b
    have hs1 := hs.fresh ht (.tup (ps.map sv))
    refine s_cons ?_
    repeat walk_at "w"
    refine a_own X hs1.inst (by rfl) ?_ (by rfl) (by rfl) (by rfl) (by rfl) (by rw [hr]; rfl)
    rw [hr]
    repeat walk_at "w"
    refine if_f (by rfl) ?_
    repeat walk_at "w"
    refine a_meth X hs1.inst (by rfl) ?_ (by rfl) (by rfl) (by rfl)
    repeat walk_at "w"
    refine call_fn (k := 3) (Room.le room (by decide)) (Fn.mono (fn_getn b v hs1 (by omega)) fun r σ2 q => ?_)
    obtain ⟨A2, e1, e2, e3, e4, e5, hs2, rfl, hnew, hk2⟩ := q
    have hv2 := g.need_mem v
    have ht2 : σ2 t = some (.tup (ps.map sv)) := hk2 t _ (Sto.upd_same _ _ _) (fun q => by have := hs.dict; rw [← q, ht] at this; cases this)
    repeat walk_at "w"
    refine a_slot (k := 1) X (hs2.node v hv2) (by rfl) ?_ (by rfl) (by rfl) (by rfl) (by rfl) (by rfl) (by rfl) (by rfl)
    repeat walk_at "w"
    refine c_len_tup ht2 (by rw [List.length_map, sizeLine_eq]; omega) ?_
    repeat walk_at "w"
    refine a_slotset (k := 1) X (hs2.node v hv2) ?_ (by rfl) (by rfl) (by rfl) (by rfl) (by rfl) (by decide)
    rw [List.length_map]
    have hs3 := hs2.setNp hv2 ((g.need v).np v + ps.length)
    have x3 : Ext A g σ A2 ((g.need v).setNp v ((g.need v).np v + ps.length)) _ := ((Ext.fresh hs ht (.tup (ps.map sv))).trans (Ext.need e1 e2 e3 e4 e5 hs2 hnew hk2)).trans (Ext.setNp hs2 hv2 ((g.need v).np v + ps.length))
    have ht3 := upd_keep (w := .slots 57 (A2.ad v) [some (sv v), some (nv ((g.need v).np v + ps.length)), some (.ref (A2.al v))]) ht2 (hs2.node v hv2).1 (fun c => nomatch c)
    repeat walk_at "w"
    refine s_for ?_
    repeat walk_at "w"
    refine ⟨ps.map sv, _, AddSt A g σ t v ps, iters_tup (room.2.2 (by decide)), ⟨rfl, rfl, ht3, A2, x3⟩, fun i m' σ' q => by obtain ⟨_, _, z, _, _⟩ := q; exact z, ?_, ?_⟩
    · rintro i u m₁ σ₁ hu ⟨h1, h2, h3, A3, x4⟩
      rw [List.getElem?_map, Option.map_eq_some_iff] at hu
      obtain ⟨p, hp, rfl⟩ := hu
      have hps : (ps.take (i + 1)) = ps.take i ++ [p] := by rw [List.take_add_one, hp]; rfl
      have hil : i < ps.length := (List.getElem?_eq_some_iff.mp hp).1
      refine put_local ?_ (by rfl) (by rfl)
      have hlen3 := addp_len v (ps.take i) ((g.need v).setNp v ((g.need v).np v + ps.length))
      have hl1 : ((g.need v).setNp v ((g.need v).np v + ps.length)).names.length ≤ g.names.length + 1 := g.need_len v
      have hl2 : (ps.take i).length ≤ ps.length := by rw [List.length_take]; omega
      have hsu := addp_su v p (ps.take i) ((g.need v).setNp v ((g.need v).np v + ps.length))
      have hsu1 : (((g.need v).setNp v ((g.need v).np v + ps.length)).su p).length ≤ (g.su p).length := need_su p
      have hsu2 := hsz p
      generalize hgi : (ps.take i).foldl (Gr.addp v) ((g.need v).setNp v ((g.need v).np v + ps.length)) = gi at *
      refine s_cons ?_
      repeat walk_at "w"
      have i4 : InstS σ₁ A.x A3.dx 154 (A3.attrs gi) := x4.x ▸ x4.at_.inst
      refine a_meth X i4 (by rfl) ?_ (by rfl) (by rfl) (by rfl)
      have f := fn_getn b p x4.at_ (by omega)
      rw [x4.x] at f
      repeat walk_at "w"
      refine call_fn (k := 3) (Room.le room (by decide)) (Fn.mono f fun r σ5 q => ?_)
      obtain ⟨A5, f1, f2, f3, f4, f5, hs5, rfl, hnew5, hk5⟩ := q
      have x5 := x4.trans (Ext.need f1 f2 f3 f4 f5 hs5 hnew5 hk5)
      have hp5 := gi.need_mem p
      have t5 : σ5 t = some (.tup (ps.map sv)) := hk5 t _ h3 (fun q => by have := x4.at_.dict; rw [← q, h3] at this; cases this)
      repeat walk_at "w"
      refine a_slot (k := 2) X (hs5.node p hp5) (by rfl) ?_ (by rfl) (by rfl) (by rfl) (by rfl) (by rfl) (by rfl) (by rfl)
      repeat walk_at "w"
      refine m_list (hs5.succ p hp5) ?_ PySem.F.slot_list_append
      repeat walk_at "w"
      have hsu5 := need_su (g := gi) (v := p) p
      refine c_append (hs5.succ p hp5) (by rw [List.length_map, sizeLine_eq]; omega) ?_
      repeat walk_at "w"
      refine ⟨h1, h2, upd_keep t5 (hs5.succ p hp5) (fun c => nomatch c), A5, ?_⟩
      rw [hps, List.foldl_append, hgi]
      exact x5.trans (Ext.push hs5 hp5 v)
    · rintro m₁ σ₁ ⟨h1, h2, h3, A3, x4⟩
      rw [List.length_map, List.take_length] at x4
      repeat walk_at "w"
      exact ⟨rfl, A3.foot (g.add v ps), ⟨A3, x4.x, x4.at_, fun _ f => f⟩, x4.left hF⟩
end
section
def Gr.empty : Gr := ⟨[], fun _ => 0, fun _ => [], none, 0, 0⟩
theorem InstS.upd {σ : Sto} {x dx cl : Addr} {kvs kvs' : List (Str × Value)} (h : InstS σ x dx cl kvs) : InstS (σ.upd dx (.attrs kvs')) x dx cl kvs' :=
  ⟨upd_keep h.1 h.2 (fun c => nomatch c), Sto.upd_same _ _ _⟩
theorem InstS.fresh {σ : Sto} {x dx cl d : Addr} {kvs : List (Str × Value)} {w : AO} (h : InstS σ x dx cl kvs) (hd : σ d = none) : InstS (σ.upd d w) x dx cl kvs := ⟨upd_fresh h.1 hd, upd_fresh h.2 hd⟩
noncomputable def ob_sinit (w : World) : {o // (K1 w).lookup 90 = some o} := ⟨_, rfl⟩
noncomputable def fd_sinit (w : World) : {fd // (ob_sinit w).1.data = .func fd} := ⟨_, rfl⟩
noncomputable def bd_sinit (w : World) : {b // (fd_sinit w).1.body = .stmts b} := ⟨_, rfl⟩
noncomputable def cx_sinit (w : World) (h₀ : Heap) (A : Around) (L : Addr) : Cx := ⟨prog1, w, h₀, A, callEnvC (fd_sinit w).1 L 90, botE⟩
noncomputable def od_sinit (w : World) : {o // (K1 w).lookup (match (fd_sinit w).1.defaults with | .ref a => a | _ => 0) = some o} := ⟨_, rfl⟩
theorem fn_sinit {w : World} {h₀ : Heap} (b : Bs w h₀) {σ : Sto} {x dx : Addr} (hs : InstS σ x dx 154 []) :
    Fn prog1 w h₀ 1 (.ref 90) [.ref x] (fun r σ' => r = .none ∧ ∃ d, σ d = none ∧ InstS σ' x dx 154 [("_node2info", .ref d), ("_ready_nodes", .none), ("_npassedout", nv 0), ("_nfinished", nv 0)] ∧ σ' d = some (.dstr [] 0) ∧ ∀ a, a ≠ dx → a ≠ d → σ' a = σ a) botF σ := by
  refine fn_binds (o := (ob_sinit w).1) (fd := (fd_sinit w).1) (body := (bd_sinit w).1) (eb := [(("self" : Str), .ref x), ("graph", .none)]) (b.X 90 _ (ob_sinit w).2) (fd_sinit w).2 (bd_sinit w).2 (by rfl) b.nolimit (b.code (c := 89) (by rfl) (by rfl) (by rfl)) ?_ (by rfl) (by intro _; rfl) ?_
  · intro s vals hv hk
    obtain ⟨a, rfl, ea⟩ := inv1 hv
    refine ⟨[("self", a), ("graph", .none)], by simp [erB, ea, er], ?_⟩
    exact BindsTo.of_defaults (T := (match (fd_sinit w).1.defaults with | .ref a => a | _ => 0)) (by rfl) (hk _ _ (b.X _ _ (od_sinit w).2)) (by rfl) (by rfl) (by rfl)
  · intro Ar L room hL
    show (cx_sinit w h₀ Ar L).W (execs (bd_sinit w).1 (cx_sinit w h₀ Ar L).env) _ _ _
    have X : (K1 w).In (cx_sinit w h₀ Ar L).h₀ := b.X
    refine s_cons ?_
    repeat walk_at "w"
    intro d hd
    have h1 := hs.fresh (w := .dstr [] 0) hd
    repeat walk_at "w"
    refine a_set X h1 (by simp) ?_ (by rfl) (by rfl) (by rfl) (by rfl)
    have h2 := h1.upd (kvs' := [("_node2info", .ref d)])
    repeat walk_at "w"
    refine a_set X h2 (by simp) ?_ (by rfl) (by rfl) (by rfl) (by rfl)
    have h3 := h2.upd (kvs' := [("_node2info", .ref d), ("_ready_nodes", .none)])
    repeat walk_at "w"
    refine a_set X h3 (by simp) ?_ (by rfl) (by rfl) (by rfl) (by rfl)
    have h4 := h3.upd (kvs' := [("_node2info", .ref d), ("_ready_nodes", .none), ("_npassedout", nv 0)])
    repeat walk_at "w"
    refine a_set X h4 (by simp) ?_ (by rfl) (by rfl) (by rfl) (by rfl)
    have h5 := h4.upd (kvs' := [("_node2info", .ref d), ("_ready_nodes", .none), ("_npassedout", nv 0), ("_nfinished", nv 0)])
    repeat walk_at "w"
    refine if_f (by rfl) ?_
    repeat walk_at "w"
    have hdx : d ≠ dx := fun q => by rw [q, hs.2] at hd; cases hd
    refine ⟨rfl, d, hd, h5, ?_, fun a n1 n2 => ?_⟩
    · rw [Sto.upd_ne hdx, Sto.upd_ne hdx, Sto.upd_ne hdx, Sto.upd_ne hdx, Sto.upd_same]
    · rw [Sto.upd_ne n1, Sto.upd_ne n1, Sto.upd_ne n1, Sto.upd_ne n1, Sto.upd_ne n2]
theorem fn_new {w : World} {h₀ : Heap} (b : Bs w h₀) {σ : Sto} :
    Fn prog1 w h₀ 2 (.ref 154) [] (fun r σ' => ∃ x F, r = .ref x ∧ Srt x F Gr.empty σ' ∧ (∀ a, F a → σ a = none) ∧ ∀ a y, σ a = some y → σ' a = some y) botF σ := by
  refine fn_make b.X (fun _ => .attrs []) (fun d => .raw (instObj 154 d)) (fun _ => ⟨[], 0, rfl, rfl⟩) (fun d => rfl) (fun x dx hx hdx hxd => Fn.mono (fn_sinit b (x := x) (dx := dx) ⟨Sto.upd_same _ _ _, by rw [Sto.upd_ne (Ne.symm hxd), Sto.upd_same]⟩) fun r σ₁ q => ⟨q.1, ?_⟩) (by rfl) (by rfl) (by rfl)
  obtain ⟨_, d, hd, hi, hdd, hoff⟩ := q
  have hdx' : d ≠ x := fun q => by rw [q, Sto.upd_same] at hd; cases hd
  have hddx : d ≠ dx := fun q => by rw [q, Sto.upd_ne (Ne.symm hxd), Sto.upd_same] at hd; cases hd
  have hd0 : σ d = none := by rw [Sto.upd_ne hdx', Sto.upd_ne hddx] at hd; exact hd
  have ne : ∀ {a y c}, σ a = some y → σ c = none → a ≠ c := fun e n q => by rw [q, n] at e; cases e
  refine ⟨x, fun a => a = x ∨ a = dx ∨ a = d, rfl, ⟨⟨x, dx, d, 0, fun _ => 0, fun _ => 0, fun _ => 0, 0⟩, rfl, ⟨hi, hdd, (by intro v hv; cases hv), (by intro v hv; cases hv), (by intro rs h; cases h), (by intro v hv; cases hv), List.nodup_nil⟩, ?_⟩, ?_, ?_⟩
  · rintro a (rfl | rfl | rfl | ⟨v, hv, _⟩ | ⟨h, _⟩)
    · exact .inl rfl
    · exact .inr (.inl rfl)
    · exact .inr (.inr rfl)
    · cases hv
    · exact absurd rfl h
  · rintro a (rfl | rfl | rfl)
    · exact hx
    · exact hdx
    · exact hd0
  · intro a y e
    rw [hoff a (ne e hdx) (ne e hd0), Sto.upd_ne (ne e hx), Sto.upd_ne (ne e hdx)]
    exact e
end
section
theorem rd_ne {g : Gr} {rs : List Str} (h : g.rd = some rs) : g.rd ≠ none := by rw [h]; exact fun c => nomatch c
section
variable {A : Ad} {g : Gr} {σ : Sto}
theorem SrtAt.setPo (h : SrtAt A g σ) (p : Int) : SrtAt A { g with po := p } (σ.upd A.dx (.attrs (A.attrs { g with po := p }))) := by
  have hx := h.inst.2
  exact ⟨h.inst.upd, upd_keep h.dict hx (fun c => nomatch c), fun u hu => (h.node u hu).keep hx (fun c => nomatch c) (fun c => nomatch c), fun u hu => upd_keep (h.succ u hu) hx (fun c => nomatch c),
    fun rs hrs => ⟨upd_keep (h.rdy rs hrs).1 hx (fun c => nomatch c), (h.rdy rs hrs).2⟩, h.inj, h.nod⟩
theorem Ext.setPo (h : SrtAt A g σ) (p : Int) : Ext A g σ A { g with po := p } (σ.upd A.dx (.attrs (A.attrs { g with po := p }))) :=
  ⟨rfl, h.setPo p, fun _ f => .inl f, fun a y e n => by
    rw [Sto.upd_ne (fun q => n (by rw [q]; exact .inr (.inl rfl)))]
    exact e⟩
theorem SrtAt.setNf (h : SrtAt A g σ) (p : Int) : SrtAt A { g with nf := p } (σ.upd A.dx (.attrs (A.attrs { g with nf := p }))) := by
  have hx := h.inst.2
  exact ⟨h.inst.upd, upd_keep h.dict hx (fun c => nomatch c), fun u hu => (h.node u hu).keep hx (fun c => nomatch c) (fun c => nomatch c), fun u hu => upd_keep (h.succ u hu) hx (fun c => nomatch c),
    fun rs hrs => ⟨upd_keep (h.rdy rs hrs).1 hx (fun c => nomatch c), (h.rdy rs hrs).2⟩, h.inj, h.nod⟩
theorem Ext.setNf (h : SrtAt A g σ) (p : Int) : Ext A g σ A { g with nf := p } (σ.upd A.dx (.attrs (A.attrs { g with nf := p }))) :=
  ⟨rfl, h.setNf p, fun _ f => .inl f, fun a y e n => by
    rw [Sto.upd_ne (fun q => n (by rw [q]; exact .inr (.inl rfl)))]
    exact e⟩
theorem SrtAt.setRd (h : SrtAt A g σ) {rs : List Str} (hr : g.rd = some rs) (rs' : List Str) : SrtAt A { g with rd := some rs' } (σ.upd A.r (.list (rs'.map sv))) := by
  obtain ⟨hx, hne⟩ := h.rdy rs hr
  have ha : A.attrs { g with rd := some rs' } = A.attrs g := by unfold Ad.attrs; rw [hr]
  refine ⟨?_, upd_keep h.dict hx (fun c => nomatch c), fun u hu => (h.node u hu).keep hx (fun c => nomatch c) (fun c => nomatch c), fun u hu => ?_, fun q hq => ?_, h.inj, h.nod⟩
  · rw [ha]
    exact ⟨upd_keep h.inst.1 hx (fun c => nomatch c), upd_keep h.inst.2 hx (fun c => nomatch c)⟩
  · rw [Sto.upd_ne (hne u hu)]
    exact h.succ u hu
  · have : q = rs' := (Option.some.inj hq).symm
    subst this
    exact ⟨Sto.upd_same _ _ _, hne⟩
theorem Ext.setRd (h : SrtAt A g σ) {rs : List Str} (hr : g.rd = some rs) (rs' : List Str) : Ext A g σ A { g with rd := some rs' } (σ.upd A.r (.list (rs'.map sv))) := by
  have hf : ∀ a, A.foot { g with rd := some rs' } a → A.foot g a := by
    rintro a (q | q | q | q | ⟨_, q⟩)
    · exact .inl q
    · exact .inr (.inl q)
    · exact .inr (.inr (.inl q))
    · exact .inr (.inr (.inr (.inl q)))
    · exact .inr (.inr (.inr (.inr ⟨rd_ne hr, q⟩)))
  exact ⟨rfl, h.setRd hr rs', fun a f => .inl (hf a f), fun a y e n => by
    rw [Sto.upd_ne (fun q => n (by rw [q]; exact .inr (.inr (.inr (.inr ⟨rd_ne hr, rfl⟩)))))]
    exact e⟩
theorem Ext.setNp' {A' : Ad} {g' : Gr} {σ' : Sto} (p : Ext A g σ A' g' σ') {v : Str} (hv : v ∈ g'.names) (k : Int) : Ext A g σ A' (g'.setNp v k) (σ'.upd (A'.ax v) (.slots 57 (A'.ad v) [some (sv v), some (nv k), some (.ref (A'.al v))])) := p.trans (Ext.setNp p.at_ hv k)
end
def Gr.npAll (k : Int) (g : Gr) (l : List Str) : Gr := l.foldl (fun g v => g.setNp v k) g
theorem npAll_names (k : Int) : ∀ (l : List Str) (g : Gr), (g.npAll k l).names = g.names ∧ (g.npAll k l).su = g.su ∧ (g.npAll k l).rd = g.rd ∧ (g.npAll k l).po = g.po ∧ (g.npAll k l).nf = g.nf
  | [], g => ⟨rfl, rfl, rfl, rfl, rfl⟩
  | v :: l, g => npAll_names k l (g.setNp v k)
theorem npAll_np (k : Int) (u : Str) : ∀ (l : List Str) (g : Gr), (g.npAll k l).np u = if u ∈ l then k else g.np u
  | [], g => by simp [Gr.npAll]
  | v :: l, g => by
    show ((g.setNp v k).npAll k l).np u = _
    rw [npAll_np k u l]
    by_cases h : u ∈ l
    · simp [h]
    · by_cases q : u = v
      · simp [Gr.setNp, q]
      · simp [h, q, Gr.setNp]
def Gr.out (g : Gr) (rs : List Str) : Gr := { g.npAll (-1) rs with rd := some [], po := g.po + rs.length }
noncomputable def ob_getr (w : World) : {o // (K1 w).lookup 116 = some o} := ⟨_, rfl⟩
noncomputable def fd_getr (w : World) : {fd // (ob_getr w).1.data = .func fd} := ⟨_, rfl⟩
noncomputable def bd_getr (w : World) : {b // (fd_getr w).1.body = .stmts b} := ⟨_, rfl⟩
noncomputable def cx_getr (w : World) (h₀ : Heap) (A : Around) (L : Addr) : Cx := ⟨prog1, w, h₀, A, callEnvC (fd_getr w).1 L 116, botE⟩
inductive GrSt (A : Ad) (g : Gr) (σ : Sto) (t : Addr) (rs : List Str) (i : Nat) (m' : Map) (σ' : Sto) : Prop
  | mk (q1 : m' (Str.ofString "self") = some (.ref A.x)) (q2 : m' (Str.ofString "n2i") = some (.ref A.d)) (q3 : m' (Str.ofString "result") = some (.ref t)) (q4 : σ' t = some (.tup (rs.map sv))) (q5 : Ext A g σ A (g.npAll (-1) (rs.take i)) σ') : GrSt A g σ t rs i m' σ'
@[reducible] def GetrPost (x : Addr) (F : Addr → Prop) (g : Gr) (rs : List Str) (σ : Sto) (r : Value) (σ' : Sto) : Prop := ∃ t F', r = .ref t ∧ σ' t = some (.tup (rs.map sv)) ∧ σ t = none ∧ ¬ F' t ∧ Srt x F' (g.out rs) σ' ∧ Left F F' σ σ'
theorem fn_getr {w : World} {h₀ : Heap} (b : Bs w h₀) {σ : Sto} {x : Addr} {F : Addr → Prop} {g : Gr} {rs : List Str} (hs : Srt x F g σ) (hr : g.rd = some rs) (hsub : ∀ v ∈ rs, v ∈ g.names) (hz : rs.length ≤ 100000) :
    Fn prog1 w h₀ 44 (.ref 116) [.ref x] (GetrPost x F g rs σ) botF σ := by
  refine fn_plain (o := (ob_getr w).1) (fd := (fd_getr w).1) (body := (bd_getr w).1) (names := [("self" : Str)]) (b.X 116 _ (ob_getr w).2) (fd_getr w).2 (bd_getr w).2 (by rfl) b.nolimit (b.code (c := 115) (by rfl) (by rfl) (by rfl)) ?_ (by rfl) (by intro _; rfl) ?_
  · intro vals hv
    obtain ⟨a, rfl, _⟩ := inv1 hv
    rfl
  · intro Ar L room hL
    show (cx_getr w h₀ Ar L).W (execs (bd_getr w).1 (cx_getr w h₀ Ar L).env) _ _ _
    obtain ⟨A, rfl, hs, hF⟩ := hs
    have X : (K1 w).In (cx_getr w h₀ Ar L).h₀ := b.X
    have hlen := len_glob b
    have htup : GV (cx_getr w h₀ Ar L).h₀ "tuple" (.type "tuple") := b.built (by rfl) (by rfl) (by decide)
    have hout : GV (cx_getr w h₀ Ar L).h₀ "_NODE_OUT" (.int (-1) 292) := b.glob (by rfl)
    obtain ⟨hrd, hrne⟩ := hs.rdy rs hr
    refine s_cons ?_
    repeat walk_at "w"
    refine a_own X hs.inst (v := .ref A.r) (by unfold Ad.attrs; rw [hr]; rfl) ?_ (by rfl) (by rfl) (by rfl) (by rfl) (by rfl)
    repeat walk_at "w"
    refine if_f (by rfl) ?_
    repeat walk_at "w"
    refine a_own X hs.inst (v := .ref A.r) (by unfold Ad.attrs; rw [hr]; rfl) ?_ (by rfl) (by rfl) (by rfl) (by rfl) (by rfl)
    repeat walk_at "w"
    refine c_tuple hrd (by rw [List.length_map, sizeLine_eq]; omega) fun t ht => ?_
    have hs1 := hs.fresh ht (.tup (rs.map sv))
    repeat walk_at "w"
    refine a_own X hs1.inst (by rfl) ?_ (by rfl) (by rfl) (by rfl) (by rfl) (by rfl)
    repeat walk_at "w"
    refine s_for ?_
    repeat walk_at "w"
    refine ⟨rs.map sv, _, GrSt A g σ t rs, iters_tup (room.2.2 (by decide)), ⟨rfl, rfl, rfl, Sto.upd_same _ _ _, Ext.fresh hs ht _⟩, fun i m' σ' q => by obtain ⟨_, _, _, z, _⟩ := q; exact z, ?_, ?_⟩
    · rintro i u m₁ σ₁ hu ⟨h1, h2, h3, h4, x4⟩
      rw [List.getElem?_map, Option.map_eq_some_iff] at hu
      obtain ⟨p, hp, rfl⟩ := hu
      have hps : (rs.take (i + 1)) = rs.take i ++ [p] := by rw [List.take_add_one, hp]; rfl
      have hpm : p ∈ g.names := hsub p (List.mem_of_getElem? hp)
      have hnm := (npAll_names (-1) (rs.take i) g).1
      have hpm' : p ∈ (g.npAll (-1) (rs.take i)).names := by rw [hnm]; exact hpm
      refine put_local ?_ (by rfl) (by rfl)
      refine s_cons ?_
      repeat walk_at "w"
      refine ⟨got_dict x4.at_.dict, o_getd x4.at_.dict (by rw [valueAt_names, if_pos hpm']) ?_⟩
      refine a_slotset (k := 1) X (x4.at_.node p hpm') ?_ (by rfl) (by rfl) (by rfl) (by rfl) (by rfl) (by decide)
      repeat walk_at "w"
      refine ⟨h1, h2, h3, upd_keep h4 (x4.at_.node p hpm').1 (fun c => nomatch c), ?_⟩
      have e : g.npAll (-1) (rs.take (i + 1)) = (g.npAll (-1) (rs.take i)).setNp p (-1) := by
        rw [hps]; unfold Gr.npAll; rw [List.foldl_append]; rfl
      rw [e]
      exact x4.setNp' hpm' (-1)
    · rintro m₁ σ₁ ⟨h1, h2, h3, h4, x4⟩
      rw [List.length_map, List.take_length] at x4
      obtain ⟨q1, q2, q3, q4, q5⟩ := npAll_names (-1) rs g
      have hr4 : (g.npAll (-1) rs).rd = some rs := by rw [q3]; exact hr
      repeat walk_at "w"
      refine a_own X x4.at_.inst (v := .ref A.r) (by unfold Ad.attrs; rw [hr4]; rfl) ?_ (by rfl) (by rfl) (by rfl) (by rfl) (by rfl)
      refine m_list (x4.at_.rdy rs hr4).1 ?_ PySem.F.slot_list_clear
      repeat walk_at "w"
      refine c_clear (x4.at_.rdy rs hr4).1 (by rw [List.length_map, sizeLine_eq]; omega) ?_
      have x5 := x4.trans (Ext.setRd x4.at_ hr4 [])
      have h5 : (σ₁.upd A.r (.list [])) t = some (.tup (rs.map sv)) := upd_keep h4 (x4.at_.rdy rs hr4).1 (fun c => nomatch c)
      repeat walk_at "w"
      refine a_own X x5.at_.inst (v := nv g.po) (by rw [← q4]; rfl) ?_ (by rfl) (by rfl) (by rfl) (by rfl) (by rfl)
      repeat walk_at "w"
      refine c_len_tup h5 (by rw [List.length_map, sizeLine_eq]; omega) ?_
      repeat walk_at "w"
      refine a_set X x5.at_.inst (by simp [Ad.attrs]) ?_ (by rfl) (by rfl) (by rfl) (by rfl)
      rw [List.length_map]
      have x6 := x5.trans (Ext.setPo x5.at_ (g.po + rs.length))
      repeat walk_at "w"
      intro v' hv'
      refine ⟨t, A.foot (g.out rs), hv', ?_, ht, ?_, ⟨A, rfl, x6.at_, fun _ f => f⟩, x6.left hF⟩
      · exact upd_keep h5 x5.at_.inst.2 (fun c => nomatch c)
      · intro f
        have f' : A.foot (g.npAll (-1) rs) t := by
          rcases f with q | q | q | q | ⟨_, q⟩
          · exact .inl q
          · exact .inr (.inl q)
          · exact .inr (.inr (.inl q))
          · exact .inr (.inr (.inr (.inl q)))
          · exact .inr (.inr (.inr (.inr ⟨rd_ne hr4, q⟩)))
        rcases f' with q | q | q | ⟨v, hv, q | q | q⟩ | ⟨_, q⟩
        · have := x4.at_.inst.1; rw [← q, h4] at this; cases this
        · have := x4.at_.inst.2; rw [← q, h4] at this; cases this
        · have := x4.at_.dict; rw [← q, h4] at this; cases this
        · have := (x4.at_.node v hv).1; rw [← q, h4] at this; cases this
        · have := (x4.at_.node v hv).2; rw [← q, h4] at this; cases this
        · have := x4.at_.succ v hv; rw [← q, h4] at this; cases this
        · have := (x4.at_.rdy rs hr4).1; rw [← q, h4] at this; cases this
end
section
def Gr.dec (g : Gr) (s : Str) : Gr := if g.np s - 1 = 0 then { g.setNp s (g.np s - 1) with rd := g.rd.map (· ++ [s]) } else g.setNp s (g.np s - 1)
def Gr.done1 (g : Gr) (v : Str) : Gr := let g2 := (g.su v).foldl Gr.dec (g.setNp v (-2)); { g2 with nf := g2.nf + 1 }
def Gr.doneAll (g : Gr) (l : List Str) : Gr := l.foldl Gr.done1 g
theorem dec_same (g : Gr) (s : Str) : (g.dec s).names = g.names ∧ (g.dec s).su = g.su ∧ (g.dec s).po = g.po ∧ (g.dec s).nf = g.nf := by
  unfold Gr.dec; split <;> exact ⟨rfl, rfl, rfl, rfl⟩
theorem dec_rd {g : Gr} {s : Str} {rs : List Str} (h : g.rd = some rs) : ∃ rs', (g.dec s).rd = some rs' ∧ rs'.length ≤ rs.length + 1 := by
  unfold Gr.dec
  split
  · exact ⟨rs ++ [s], by show g.rd.map _ = _; rw [h]; rfl, by simp⟩
  · exact ⟨rs, h, by omega⟩
theorem decs_same : ∀ (l : List Str) (g : Gr), (l.foldl Gr.dec g).names = g.names ∧ (l.foldl Gr.dec g).su = g.su ∧ (l.foldl Gr.dec g).po = g.po ∧ (l.foldl Gr.dec g).nf = g.nf
  | [], g => ⟨rfl, rfl, rfl, rfl⟩
  | s :: l, g => by
    obtain ⟨a, b, c, d⟩ := decs_same l (g.dec s)
    obtain ⟨a', b', c', d'⟩ := dec_same g s
    exact ⟨a.trans a', b.trans b', c.trans c', d.trans d'⟩
theorem decs_rd : ∀ (l : List Str) {g : Gr} {rs : List Str}, g.rd = some rs → ∃ rs', (l.foldl Gr.dec g).rd = some rs' ∧ rs'.length ≤ rs.length + l.length
  | [], g, rs, h => ⟨rs, h, by simp⟩
  | s :: l, g, rs, h => by
    obtain ⟨r1, h1, l1⟩ := dec_rd (s := s) h
    obtain ⟨r2, h2, l2⟩ := decs_rd l h1
    exact ⟨r2, h2, by simp only [List.length_cons]; omega⟩
theorem done_same (g : Gr) (v : Str) : (g.done1 v).names = g.names ∧ (g.done1 v).su = g.su ∧ (g.done1 v).po = g.po := by
  obtain ⟨a, b, c, d⟩ := decs_same (g.su v) (g.setNp v (-2))
  exact ⟨a, b, c⟩
theorem dones_same : ∀ (l : List Str) (g : Gr), (l.foldl Gr.done1 g).names = g.names ∧ (l.foldl Gr.done1 g).su = g.su ∧ (l.foldl Gr.done1 g).po = g.po
  | [], g => ⟨rfl, rfl, rfl⟩
  | s :: l, g => by
    obtain ⟨a, b, c⟩ := dones_same l (g.done1 s)
    obtain ⟨a', b', c'⟩ := done_same g s
    exact ⟨a.trans a', b.trans b', c.trans c'⟩
noncomputable def ob_done (w : World) : {o // (K1 w).lookup 137 = some o} := ⟨_, rfl⟩
noncomputable def fd_done (w : World) : {fd // (ob_done w).1.data = .func fd} := ⟨_, rfl⟩
noncomputable def bd_done (w : World) : {b // (fd_done w).1.body = .stmts b} := ⟨_, rfl⟩
noncomputable def cx_done (w : World) (h₀ : Heap) (A : Around) (L : Addr) : Cx := ⟨prog1, w, h₀, A, callEnvC (fd_done w).1 L 137, botE⟩
theorem bind_done (w : World) (a : Value) (ps : List Value) : bindArgs (fd_done w).1 ⟨a :: ps, []⟩ = (newTuple ps >>= fun t => pure [(("self" : Str), a), ("nodes", t)]) := by
  cases ps with
  | nil => rfl
  | cons p r => rfl
inductive DnA (A : Ad) (g : Gr) (σ : Sto) (t : Addr) (vs rs0 : List Str) (i : Nat) (m' : Map) (σ' : Sto) : Prop
  | mk (q1 : m' (Str.ofString "self") = some (.ref A.x)) (q2 : m' (Str.ofString "n2i") = some (.ref A.d)) (q3 : σ' t = some (.tup (vs.map sv))) (q4 : Ext A g σ A ((vs.take i).foldl Gr.done1 g) σ') (rs) (q5 : ((vs.take i).foldl Gr.done1 g).rd = some rs) (q6 : rs.length ≤ rs0.length + ((vs.take i).map fun v => (g.su v).length).sum) : DnA A g σ t vs rs0 i m' σ'
inductive DnB (A : Ad) (g : Gr) (σ : Sto) (t : Addr) (vs : List Str) (gi : Gr) (v : Str) (j : Nat) (m' : Map) (σ' : Sto) : Prop
  | mk (q1 : m' (Str.ofString "self") = some (.ref A.x)) (q2 : m' (Str.ofString "n2i") = some (.ref A.d)) (q3 : σ' t = some (.tup (vs.map sv))) (q4 : σ' (A.al v) = some (.list ((gi.su v).map sv))) (q5 : Ext A g σ A (((gi.su v).take j).foldl Gr.dec (gi.setNp v (-2))) σ') : DnB A g σ t vs gi v j m' σ'
@[reducible] def DonePost (x : Addr) (F : Addr → Prop) (g : Gr) (vs : List Str) (σ : Sto) (r : Value) (σ' : Sto) : Prop := r = .none ∧ ∃ F', Srt x F' (g.doneAll vs) σ' ∧ Left F F' σ σ'
set_option maxHeartbeats 4000000 in
theorem fn_done {w : World} {h₀ : Heap} (b : Bs w h₀) {σ : Sto} {x : Addr} {F : Addr → Prop} {g : Gr} {rs0 : List Str} (vs : List Str) (hs : Srt x F g σ) (hr : g.rd = some rs0)
    (hnp : ∀ i v, vs[i]? = some v → v ∈ g.names ∧ ((vs.take i).foldl Gr.done1 g).np v = -1) (hsu : ∀ v ∈ g.names, ∀ s ∈ g.su v, s ∈ g.names)
    (hz1 : vs.length ≤ 900) (hz2 : ∀ v, (g.su v).length ≤ 100000) (hz3 : rs0.length + (vs.map fun v => (g.su v).length).sum ≤ 100000) :
    Fn prog1 w h₀ 44 (.ref 137) ([.ref x] ++ vs.map sv) (DonePost x F g vs σ) botF σ := by
  refine fn_star (o := (ob_done w).1) (fd := (fd_done w).1) (body := (bd_done w).1) (names := [("self" : Str)]) (vn := "nodes") (b.X 137 _ (ob_done w).2) (fd_done w).2 (bd_done w).2 (by rfl) b.nolimit (b.code (c := 136) (by rfl) (by rfl) (by rfl)) (by rw [List.length_map, sizeLine_eq]; omega) ?_ (by rfl) (by intro _; rfl) ?_
  · intro vals rest hv
    obtain ⟨a, rfl, _⟩ := inv1 hv
    exact bind_done w a rest
  · intro Ar L t room hL ht htL
    show (cx_done w h₀ Ar L).W (execs (bd_done w).1 (cx_done w h₀ Ar L).env) _ _ _
    obtain ⟨A, rfl, hs, hF⟩ := hs
    have X : (K1 w).In (cx_done w h₀ Ar L).h₀ := b.X
    have hout : GV (cx_done w h₀ Ar L).h₀ "_NODE_OUT" (.int (-1) 292) := b.glob (by rfl)
    have hdone : GV (cx_done w h₀ Ar L).h₀ "_NODE_DONE" (.int (-2) 295) := b.glob (by rfl)
    have hs1 := hs.fresh ht (.tup (vs.map sv))
    have hrs1 := (hs1.rdy rs0 hr).1
    refine s_cons ?_
    repeat walk_at "w"
    refine a_own X hs1.inst (v := .ref A.r) (by unfold Ad.attrs; rw [hr]; rfl) ?_ (by rfl) (by rfl) (by rfl) (by rfl) (by rfl)
    repeat walk_at "w"
    refine if_f (by rfl) ?_
    repeat walk_at "w"
    refine a_own X hs1.inst (by rfl) ?_ (by rfl) (by rfl) (by rfl) (by rfl) (by rfl)
    repeat walk_at "w"
    refine s_for ?_
    repeat walk_at "w"
    refine ⟨vs.map sv, _, DnA A g σ t vs rs0, iters_tup (room.2.2 (by decide)), ⟨rfl, rfl, Sto.upd_same _ _ _, Ext.fresh hs ht _, rs0, hr, by simp⟩, fun i m' σ' q => by obtain ⟨_, _, z, _, _, _, _⟩ := q; exact z, ?_, ?_⟩
    · rintro i u m₁ σ₁ hu ⟨h1, h2, h3, x4, rs, hrs, hrl⟩
      rw [List.getElem?_map, Option.map_eq_some_iff] at hu
      obtain ⟨v, hv, rfl⟩ := hu
      have hps : (vs.take (i + 1)) = vs.take i ++ [v] := by rw [List.take_add_one, hv]; rfl
      obtain ⟨hvm, hvn⟩ := hnp i v hv
      obtain ⟨q1, q2, q3⟩ := dones_same (vs.take i) g
      generalize hgi : (vs.take i).foldl Gr.done1 g = gi at *
      have hvm' : v ∈ gi.names := by rw [q1]; exact hvm
      refine put_local ?_ (by rfl) (by rfl)
      refine s_cons ?_
      repeat walk_at "w"
      refine m_dict x4.at_.dict ?_ PySem.F.slot_dict_get
      repeat walk_at "w"
      refine c_dget b.past x4.at_.dict ?_
      rw [valueAt_names, if_pos hvm']
      repeat walk_at "w"
      refine if_f (by rfl) ?_
      repeat walk_at "w"
      refine a_slot (k := 1) X (x4.at_.node v hvm') (by rfl) ?_ (by rfl) (by rfl) (by rfl) (by rfl) (by rfl) (by rfl) (by rfl)
      rw [hvn]
      repeat walk_at "w"
      refine if_f (by rfl) ?_
      repeat walk_at "w"
      refine a_slotset (k := 1) X (x4.at_.node v hvm') ?_ (by rfl) (by rfl) (by rfl) (by rfl) (by rfl) (by decide)
      have x5 := x4.setNp' hvm' (-2)
      have t5 := upd_keep (w := .slots 57 (A.ad v) [some (sv v), some (nv (-2)), some (.ref (A.al v))]) h3 (x4.at_.node v hvm').1 (fun c => nomatch c)
      have hvm5 : v ∈ (gi.setNp v (-2)).names := hvm'
      repeat walk_at "w"
      refine s_for ?_
      repeat walk_at "w"
      refine a_slot (k := 2) X (x5.at_.node v hvm5) (by rfl) ?_ (by rfl) (by rfl) (by rfl) (by rfl) (by rfl) (by rfl) (by rfl)
      refine ⟨(gi.su v).map sv, _, DnB A g σ t vs gi v, iters_list, ⟨h1, h2, t5, x5.at_.succ v hvm5, x5⟩, fun i m' σ' q => by obtain ⟨_, _, _, z, _⟩ := q; exact z, ?_, ?_⟩
      · rintro j u m₂ σ₂ hu ⟨k1, k2, k3, k4, x6⟩
        rw [List.getElem?_map, Option.map_eq_some_iff] at hu
        obtain ⟨p, hp, rfl⟩ := hu
        have hpj : ((gi.su v).take (j + 1)) = (gi.su v).take j ++ [p] := by rw [List.take_add_one, hp]; rfl
        have hpm : p ∈ g.names := hsu v hvm p (by rw [← q2]; exact List.mem_of_getElem? hp)
        obtain ⟨r1, r2, r3, r4⟩ := decs_same ((gi.su v).take j) (gi.setNp v (-2))
        obtain ⟨rs6, hrs6, hrl6⟩ := decs_rd ((gi.su v).take j) (g := gi.setNp v (-2)) hrs
        have hlj : ((gi.su v).take j).length ≤ (g.su v).length := by rw [List.length_take, q2]; omega
        have hsv := hz2 v
        generalize hgj : ((gi.su v).take j).foldl Gr.dec (gi.setNp v (-2)) = gj at *
        have hpm6 : p ∈ gj.names := by rw [r1]; show p ∈ gi.names; rw [q1]; exact hpm
        have hvm6 : v ∈ gj.names := by rw [r1]; exact hvm'
        refine put_local ?_ (by rfl) (by rfl)
        refine s_cons ?_
        repeat walk_at "w"
        refine ⟨got_dict x6.at_.dict, o_getd x6.at_.dict (by rw [valueAt_names, if_pos hpm6]) ?_⟩
        repeat walk_at "w"
        refine a_slot (k := 1) X (x6.at_.node p hpm6) (by rfl) ?_ (by rfl) (by rfl) (by rfl) (by rfl) (by rfl) (by rfl) (by rfl)
        repeat walk_at "w"
        refine a_slotset (k := 1) X (x6.at_.node p hpm6) ?_ (by rfl) (by rfl) (by rfl) (by rfl) (by rfl) (by decide)
        have x7 := x6.setNp' hpm6 (gj.np p - 1)
        have t7 := upd_keep (w := .slots 57 (A.ad p) [some (sv p), some (nv (gj.np p - 1)), some (.ref (A.al p))]) k3 (x6.at_.node p hpm6).1 (fun c => nomatch c)
        have l7 := upd_keep (w := .slots 57 (A.ad p) [some (sv p), some (nv (gj.np p - 1)), some (.ref (A.al p))]) k4 (x6.at_.node p hpm6).1 (fun c => nomatch c)
        have hpm7 : p ∈ (gj.setNp p (gj.np p - 1)).names := hpm6
        have hnp7 : (gj.setNp p (gj.np p - 1)).np p = gj.np p - 1 := if_pos rfl
        repeat walk_at "w"
        refine a_slot (k := 1) X (x7.at_.node p hpm7) (v := nv (gj.np p - 1)) (by rw [hnp7]; rfl) ?_ (by rfl) (by rfl) (by rfl) (by rfl) (by rfl) (by rfl) (by rfl)
        repeat walk_at "w"
        have hr7 : (gj.setNp p (gj.np p - 1)).rd = some rs6 := hrs6
        refine if_b (fun hq => ?_) fun hq => ?_
        · have hq' : gj.np p - 1 = 0 := by simpa using hq
          repeat walk_at "w"
          refine a_own X x7.at_.inst (v := .ref A.r) (by unfold Ad.attrs; rw [hr7]; rfl) ?_ (by rfl) (by rfl) (by rfl) (by rfl) (by rfl)
          refine m_list (x7.at_.rdy rs6 hr7).1 ?_ PySem.F.slot_list_append
          repeat walk_at "w"
          have hsum : ((vs.take i).map fun v => (g.su v).length).sum ≤ (vs.map fun v => (g.su v).length).sum := by
            conv => rhs; rw [← List.take_append_drop i vs, List.map_append, List.sum_append]
            exact Nat.le_add_right _ _
          refine c_append (x7.at_.rdy rs6 hr7).1 (by rw [List.length_map, sizeLine_eq]; omega) ?_
          repeat walk_at "w"
          refine ⟨k1, k2, upd_keep t7 (x7.at_.rdy rs6 hr7).1 (fun c => nomatch c), ?_, ?_⟩
          · rw [Sto.upd_ne ((x7.at_.rdy rs6 hr7).2 v hvm6)]
            exact l7
          · rw [hpj, List.foldl_append, hgj]
            have e : List.foldl Gr.dec gj [p] = { gj.setNp p (gj.np p - 1) with rd := some (rs6 ++ [p]) } := by
              show gj.dec p = _
              unfold Gr.dec
              rw [if_pos hq', hrs6]
              rfl
            rw [e]
            have x8 := x7.trans (Ext.setRd x7.at_ hr7 (rs6 ++ [p]))
            rw [List.map_append] at x8
            exact x8
        · have hq' : ¬ gj.np p - 1 = 0 := by simpa using hq
          repeat walk_at "w"
          refine ⟨k1, k2, t7, l7, ?_⟩
          rw [hpj, List.foldl_append, hgj]
          have e : List.foldl Gr.dec gj [p] = gj.setNp p (gj.np p - 1) := by
            show gj.dec p = _
            unfold Gr.dec
            rw [if_neg hq']
          rw [e]
          exact x7
      · rintro m₂ σ₂ ⟨k1, k2, k3, k4, x6⟩
        rw [List.length_map, List.take_length] at x6
        repeat walk_at "w"
        obtain ⟨r1, r2, r3, r4⟩ := decs_same (gi.su v) (gi.setNp v (-2))
        obtain ⟨rs6, hrs6, hrl6⟩ := decs_rd (gi.su v) (g := gi.setNp v (-2)) hrs
        refine a_own X x6.at_.inst (v := nv ((gi.su v).foldl Gr.dec (gi.setNp v (-2))).nf) (by rfl) ?_ (by rfl) (by rfl) (by rfl) (by rfl) (by rfl)
        repeat walk_at "w"
        refine a_set X x6.at_.inst (by simp [Ad.attrs]) ?_ (by rfl) (by rfl) (by rfl) (by rfl)
        have x7 := x6.trans (Ext.setNf x6.at_ (((gi.su v).foldl Gr.dec (gi.setNp v (-2))).nf + 1))
        repeat walk_at "w"
        refine ⟨k1, k2, upd_keep k3 x6.at_.inst.2 (fun c => nomatch c), ?_, rs6, ?_, ?_⟩
        · rw [hps, List.foldl_append, hgi]
          exact x7
        · rw [hps, List.foldl_append, hgi]
          exact hrs6
        · rw [hps, List.map_append, List.sum_append]
          simp only [List.map_cons, List.map_nil, List.sum_cons, List.sum_nil]
          rw [q2] at hrl6
          omega
    · rintro m₁ σ₁ ⟨h1, h2, h3, x4, _⟩
      rw [List.length_map, List.take_length] at x4
      repeat walk_at "w"
      exact ⟨rfl, A.foot (g.doneAll vs), ⟨A, rfl, x4.at_, fun _ f => f⟩, x4.left hF⟩
end
section
def Path (su : Str → List Str) : List Str → Prop
  | [] => True
  | [_] => True
  | a :: b :: r => b ∈ su a ∧ Path su (b :: r)
theorem Path.snoc {su : Str → List Str} {v n : Str} : ∀ {l : List Str}, Path su (l ++ [v]) → n ∈ su v → Path su (l ++ [v, n])
  | [], _, h => ⟨h, trivial⟩
  | [a], p, h => ⟨p.1, h, trivial⟩
  | a :: b :: r, p, h => ⟨p.1, Path.snoc (l := b :: r) p.2 h⟩
theorem Path.tail {su : Str → List Str} {a : Str} {l : List Str} (p : Path su (a :: l)) : Path su l := by
  cases l with
  | nil => trivial
  | cons b r => exact p.2
theorem Path.drop {su : Str → List Str} : ∀ (k : Nat) {l : List Str}, Path su l → Path su (l.drop k)
  | 0, _, p => p
  | k + 1, [], _ => trivial
  | k + 1, a :: l, p => Path.drop k p.tail
def Chn (su : Str → List Str) (fin : List Str) : List (Str × Nat) → Option Str → Prop
  | [], _ => True
  | (v, p) :: r, none => p ≤ (su v).length ∧ (∀ j u, j < p → (su v)[j]? = some u → u ∈ fin) ∧ Chn su fin r (some v)
  | (v, p) :: r, some n => (∃ q, p = q + 1 ∧ (su v)[q]? = some n ∧ ∀ j u, j < q → (su v)[j]? = some u → u ∈ fin) ∧ Chn su fin r (some v)
theorem Chn.mono {su : Str → List Str} {fin fin' : List Str} (k : ∀ u, u ∈ fin → u ∈ fin') : ∀ {S : List (Str × Nat)} {o : Option Str}, Chn su fin S o → Chn su fin' S o
  | [], _, _ => trivial
  | (v, p) :: r, none, h => ⟨h.1, fun j u a b => k _ (h.2.1 j u a b), Chn.mono k h.2.2⟩
  | (v, p) :: r, some n, h => ⟨let ⟨q, a, b, c⟩ := h.1; ⟨q, a, b, fun j u x y => k _ (c j u x y)⟩, Chn.mono k h.2⟩
theorem Chn.push {su : Str → List Str} {fin : List Str} {S : List (Str × Nat)} {n : Str} (h : Chn su fin S (some n)) : Chn su fin ((n, 0) :: S) none :=
  ⟨Nat.zero_le _, fun j u a _ => absurd a (Nat.not_lt_zero _), h⟩
theorem Chn.past {su : Str → List Str} {fin : List Str} {n : Str} (hn : n ∈ fin) : ∀ {S : List (Str × Nat)}, Chn su fin S (some n) → Chn su fin S none
  | [], _ => trivial
  | (v, p) :: r, h => by
    obtain ⟨⟨q, rfl, hq, c⟩, t⟩ := h
    refine ⟨(List.getElem?_eq_some_iff.mp hq).1, fun j u a b => ?_, t⟩
    by_cases e : j = q
    · subst e; rw [hq] at b; cases b; exact hn
    · exact c j u (by omega) b
theorem Chn.next {su : Str → List Str} {fin : List Str} {S : List (Str × Nat)} {v n : Str} {p : Nat} (h : Chn su fin ((v, p) :: S) none) (hn : (su v)[p]? = some n) : Chn su fin ((v, p + 1) :: S) (some n) :=
  ⟨⟨p, rfl, hn, h.2.1⟩, h.2.2⟩
theorem Chn.pop {su : Str → List Str} {fin : List Str} {S : List (Str × Nat)} {v : Str} {p : Nat} (h : Chn su fin ((v, p) :: S) none) : Chn su (fin ++ [v]) S none :=
  Chn.past (n := v) (by simp) (Chn.mono (fun u hu => by simp [hu]) h.2.2)
theorem Chn.all {su : Str → List Str} {fin : List Str} {S : List (Str × Nat)} {v : Str} (h : Chn su fin ((v, (su v).length) :: S) none) : ∀ u ∈ su v, u ∈ fin := fun u hu => by
  obtain ⟨j, hj⟩ := List.getElem?_of_mem hu
  exact h.2.1 j u (List.getElem?_eq_some_iff.mp hj).1 hj
def stk (S : List (Str × Nat)) : List Str := (S.map (·.1)).reverse
theorem stk_cons (v : Str) (p : Nat) (S : List (Str × Nat)) : stk ((v, p) :: S) = stk S ++ [v] := by simp [stk]
theorem Chn.path {su : Str → List Str} {fin : List Str} : ∀ {S : List (Str × Nat)} {n : Str}, Chn su fin S (some n) → Path su (stk S ++ [n])
  | [], n, _ => trivial
  | (v, p) :: r, n, h => by
    obtain ⟨⟨q, _, hq, _⟩, t⟩ := h
    rw [stk_cons, List.append_assoc]
    exact Path.snoc t.path (List.mem_of_getElem? hq)
def Clo (su : Str → List Str) (fin : List Str) : Prop := ∀ (i : Nat) (v : Str), fin[i]? = some v → ∀ u ∈ su v, ∃ j : Nat, j < i ∧ fin[j]? = some u
theorem Clo.nil (su : Str → List Str) : Clo su [] := fun i v h => by simp at h
theorem Clo.snoc {su : Str → List Str} {fin : List Str} {v : Str} (c : Clo su fin) (h : ∀ u ∈ su v, u ∈ fin) : Clo su (fin ++ [v]) := fun i w hi u hu => by
  have lift : ∀ {j : Nat} {x : Str}, fin[j]? = some x → (fin ++ [v])[j]? = some x := fun {j x} e => by
    rw [List.getElem?_append_left (List.getElem?_eq_some_iff.mp e).1]; exact e
  by_cases q : i < fin.length
  · rw [List.getElem?_append_left q] at hi
    obtain ⟨j, hj, e⟩ := c i w hi u hu
    exact ⟨j, hj, lift e⟩
  · have hl := (List.getElem?_eq_some_iff.mp hi).1
    rw [List.length_append] at hl
    simp at hl
    have : i = fin.length := by omega
    subst this
    rw [List.getElem?_append_right (Nat.le_refl _)] at hi
    simp at hi
    subst hi
    obtain ⟨j, hj⟩ := List.getElem?_of_mem (h u hu)
    exact ⟨j, (List.getElem?_eq_some_iff.mp hj).1, lift hj⟩
def Acy (names : List Str) (su : Str → List Str) : Prop := ∃ rank : Str → Nat, ∀ v ∈ names, ∀ u ∈ su v, rank u < rank v
theorem Clo.acy {su : Str → List Str} {fin names : List Str} (c : Clo su fin) (h : ∀ v ∈ names, v ∈ fin) : Acy names su := by
  refine ⟨fun v => fin.idxOf v, fun v hv u hu => ?_⟩
  have hm := h v hv
  have lt := List.idxOf_lt_length_iff.mpr hm
  have e : fin[fin.idxOf v]? = some v := by rw [List.getElem?_eq_getElem lt]; simp
  obtain ⟨j, hj, hu'⟩ := c _ v e u hu
  have : fin.idxOf u ≤ j := by
    refine Nat.le_of_not_lt fun q => ?_
    obtain ⟨z, ez⟩ := List.getElem?_eq_some_iff.mp hu'
    have := List.not_of_lt_findIdx (p := (· == u)) (xs := fin) (i := j) q
    simp at this
    exact this ez
  show fin.idxOf u < fin.idxOf v
  omega
def Ring (names : List Str) (su : Str → List Str) (c : List Str) : Prop := ∃ n r, c = n :: r ∧ c.Nodup ∧ (∀ v ∈ c, v ∈ names) ∧ Path su (c ++ [n])
def Wt (names : List Str) (su : Str → List Str) (xs : List Str) : Nat := (names.map fun v => if v ∈ xs then 0 else (su v).length + 2).sum
def Pt (su : Str → List Str) (S : List (Str × Nat)) : Nat := (S.map fun vp => (su vp.1).length - vp.2 + 1).sum
theorem Wt_same {su : Str → List Str} {xs : List Str} {n : Str} : ∀ {names : List Str}, n ∉ names → Wt names su (xs ++ [n]) = Wt names su xs
  | [], _ => rfl
  | v :: r, h => by
    unfold Wt
    rw [List.map_cons, List.map_cons, List.sum_cons, List.sum_cons]
    have hv : v ≠ n := fun q => h (by simp [q])
    have ih := Wt_same (su := su) (xs := xs) (n := n) (names := r) (fun q => h (by simp [q]))
    unfold Wt at ih
    rw [ih]
    congr 1
    simp [hv]
theorem Wt_add {su : Str → List Str} {xs : List Str} {n : Str} : ∀ {names : List Str}, names.Nodup → n ∈ names → n ∉ xs → Wt names su xs = Wt names su (xs ++ [n]) + (su n).length + 2
  | v :: r, hd, hm, hx => by
    rw [List.nodup_cons] at hd
    unfold Wt
    rw [List.map_cons, List.map_cons, List.sum_cons, List.sum_cons]
    by_cases q : v = n
    · subst q
      have := Wt_same (su := su) (xs := xs) (n := v) (names := r) hd.1
      unfold Wt at this
      rw [this]
      simp [hx]
      omega
    · have ih := Wt_add (su := su) (xs := xs) (n := n) hd.2 (by simpa [Ne.symm q] using hm) hx
      unfold Wt at ih
      rw [ih]
      have : (v ∈ xs ++ [n]) = (v ∈ xs) := by simp [q]
      simp only [this]
      omega
theorem Pt_cons (su : Str → List Str) (v : Str) (p : Nat) (S : List (Str × Nat)) : Pt su ((v, p) :: S) = (su v).length - p + 1 + Pt su S := by simp [Pt]
end
section
theorem SrtAt.sup {A : Ad} {g : Gr} {σ σ' : Sto} (h : SrtAt A g σ) (k : ∀ a y, σ a = some y → σ' a = some y) : SrtAt A g σ' :=
  ⟨⟨k _ _ h.inst.1, k _ _ h.inst.2⟩, k _ _ h.dict, fun v hv => ⟨k _ _ (h.node v hv).1, k _ _ (h.node v hv).2⟩, fun v hv => k _ _ (h.succ v hv), fun rs hr => ⟨k _ _ (h.rdy rs hr).1, (h.rdy rs hr).2⟩, h.inj, h.nod⟩
def Its (al : Str → Addr) (σ₀ σ : Sto) : List (Str × Nat) → List Addr → Prop
  | [], [] => True
  | (v, p) :: S, b :: bs => (∃ I, σ b = some (.raw (nextObj I)) ∧ σ I = some (.liter (al v) p) ∧ σ₀ I = none) ∧ Its al σ₀ σ S bs
  | _, _ => False
theorem Its.mono {al : Str → Addr} {σ₀ σ σ' : Sto} : ∀ {S : List (Str × Nat)} {bs : List Addr}, (∀ b o, σ b = some (.raw o) → σ' b = some (.raw o)) → (∀ I v p, (v, p) ∈ S → σ I = some (.liter (al v) p) → σ' I = some (.liter (al v) p)) → Its al σ₀ σ S bs → Its al σ₀ σ' S bs
  | [], [], _, _, _ => trivial
  | (v, p) :: S, b :: bs, k1, k2, ⟨⟨I, h1, h2, h3⟩, t⟩ => ⟨⟨I, k1 _ _ h1, k2 _ _ _ (.head _) h2, h3⟩, Its.mono k1 (fun I u q hm => k2 I u q (.tail _ hm)) t⟩
  | [], _ :: _, _, _, h => h.elim
  | _ :: _, [], _, _, h => h.elim
theorem Its.upd {al : Str → Addr} {σ₀ σ : Sto} {S : List (Str × Nat)} {bs : List Addr} {d : Addr} {w : AO} (h : Its al σ₀ σ S bs) (h1 : ∀ o, σ d ≠ some (.raw o)) (h2 : ∀ l i, σ d ≠ some (.liter l i)) : Its al σ₀ (σ.upd d w) S bs :=
  h.mono (fun b o e => by rw [Sto.upd_ne (fun q : b = d => h1 o (by rw [← q]; exact e))]; exact e) (fun I v p _ e => by rw [Sto.upd_ne (fun q : I = d => h2 _ _ (by rw [← q]; exact e))]; exact e)
theorem Its.turn {al : Str → Addr} {σ₀ σ : Sto} {S : List (Str × Nat)} {bs : List Addr} {I : Addr} {v : Str} {p : Nat} {w : AO} (h : Its al σ₀ σ S bs) (hI : σ I = some (.liter (al v) p)) (hn : ∀ u q, (u, q) ∈ S → al u ≠ al v) : Its al σ₀ (σ.upd I w) S bs :=
  h.mono (fun b o e => upd_keep e hI (fun c => nomatch c)) (fun J u q hm e => upd_keep e hI (fun c => by injection c with c _; exact hn u q hm c))
theorem Its.len {al : Str → Addr} {σ₀ σ : Sto} : ∀ {S : List (Str × Nat)} {bs : List Addr}, Its al σ₀ σ S bs → bs.length = S.length
  | [], [], _ => rfl
  | _ :: S, _ :: bs, h => congrArg Nat.succ (Its.len (S := S) (bs := bs) h.2)
  | [], _ :: _, h => h.elim
  | _ :: _, [], h => h.elim
structure Fa where
  st : Addr
  it : Addr
  se : Addr
  nd : Addr
structure Fc (σ₀ : Sto) (A : Ad) (g : Gr) (f : Fa) (σ : Sto) (fin : List Str) (S : List (Str × Nat)) (xs : List Str) : Prop where
  sup : ∀ a y, σ₀ a = some y → σ a = some y
  st : σ f.st = some (.list ((stk S).map sv))
  it : ∃ bs : List Addr, σ f.it = some (.list (bs.reverse.map Value.ref)) ∧ Its A.al σ₀ σ S bs
  se : σ f.se = some (.sset xs)
  nd : ∃ ep, ∃ ix : Str → Nat, σ f.nd = some (.dstr ((stk S).map fun v => (v, nv (ix v))) ep) ∧ ∀ (i : Nat) (v : Str), (stk S)[i]? = some v → ix v = i
  mem : ∀ v, v ∈ xs ↔ v ∈ fin ∨ v ∈ stk S
  xn : xs.Nodup
  xs : ∀ v ∈ xs, v ∈ g.names
  nod : (stk S).Nodup
  clo : Clo g.su fin
  n1 : σ₀ f.st = none
  n2 : σ₀ f.it = none
  n3 : σ₀ f.se = none
  n4 : σ₀ f.nd = none
  ne : f.st ≠ f.it
theorem mem_stk {S : List (Str × Nat)} {v : Str} {p : Nat} (h : (v, p) ∈ S) : v ∈ stk S := by
  unfold stk
  rw [List.mem_reverse, List.mem_map]
  exact ⟨_, h, rfl⟩
theorem nodup_le : ∀ {xs ys : List Str}, xs.Nodup → (∀ v ∈ xs, v ∈ ys) → xs.length ≤ ys.length
  | [], _, _, _ => Nat.zero_le _
  | a :: r, ys, hn, h => by
    rw [List.nodup_cons] at hn
    have ha := h a (.head _)
    have := nodup_le (xs := r) (ys := ys.erase a) hn.2 fun v hv => (List.mem_erase_of_ne (fun q : v = a => hn.1 (by rw [← q]; exact hv))).mpr (h v (.tail _ hv))
    rw [List.length_erase_of_mem ha] at this
    have p := List.length_pos_of_mem ha
    rw [List.length_cons]
    omega
section
variable {σ₀ σ : Sto} {A : Ad} {g : Gr} {f : Fa} {fin xs : List Str} {S : List (Str × Nat)}
theorem Fc.stkn (h : Fc σ₀ A g f σ fin S xs) {v : Str} (hv : v ∈ stk S) : v ∈ g.names := h.xs v ((h.mem v).mpr (.inr hv))
theorem Fc.xlen (h : Fc σ₀ A g f σ fin S xs) : xs.length ≤ g.names.length := nodup_le h.xn fun v hv => h.xs v hv
theorem Fc.stklen (h : Fc σ₀ A g f σ fin S xs) : (stk S).length ≤ g.names.length := nodup_le h.nod fun v hv => h.stkn hv
theorem stk_nodup_push {S : List (Str × Nat)} {n : Str} {p : Nat} (h : (stk S).Nodup) (hn : n ∉ stk S) : (stk ((n, p) :: S)).Nodup := by
  rw [stk_cons, List.nodup_append]
  refine ⟨h, by simp, fun a ha c hc => ?_⟩
  rw [List.mem_singleton.mp hc]
  intro q
  exact hn (q ▸ ha)
theorem Fc.push (fc : Fc σ₀ A g f σ fin S xs) {bs : List Addr} {ep ep' : Nat} {ix : Str → Nat} {I bD : Addr} {n : Str} (hn : n ∈ g.names) (hx : n ∉ xs) (hit : σ f.it = some (.list (bs.reverse.map Value.ref))) (hi : Its A.al σ₀ σ S bs)
    (hnd : σ f.nd = some (.dstr ((stk S).map fun v => (v, nv (ix v))) ep)) (hix : ∀ (i : Nat) (v : Str), (stk S)[i]? = some v → ix v = i)
    (hI : (σ.upd f.se (.sset (xs ++ [n]))) I = none) (hb : ((σ.upd f.se (.sset (xs ++ [n]))).upd I (.liter (A.al n) 0)) bD = none) :
    Fc σ₀ A g f ((((((σ.upd f.se (.sset (xs ++ [n]))).upd I (.liter (A.al n) 0)).upd bD (.raw (nextObj I))).upd f.it (.list (bs.reverse.map Value.ref ++ [.ref bD]))).upd f.nd (.dstr ((stk S).map (fun v => (v, nv (ix v))) ++ [(n, nv (stk S).length)]) ep')).upd f.st (.list ((stk S).map sv ++ [sv n]))) fin ((n, 0) :: S) (xs ++ [n]) := by
  have hns : n ∉ stk S := fun q => hx ((fc.mem n).mpr (.inr q))
  generalize e1 : σ.upd f.se (.sset (xs ++ [n])) = σ1 at *
  have s1 : ∀ b y, σ₀ b = some y → σ1 b = some y := by rw [← e1]; exact sup_upd fc.sup fc.n3
  have se1 : σ1 f.se = some (.sset (xs ++ [n])) := by rw [← e1]; exact Sto.upd_same _ _ _
  have st1 : σ1 f.st = some (.list ((stk S).map sv)) := by rw [← e1]; exact upd_keep fc.st fc.se (fun c => nomatch c)
  have it1 : σ1 f.it = some (.list (bs.reverse.map Value.ref)) := by rw [← e1]; exact upd_keep hit fc.se (fun c => nomatch c)
  have nd1 := show σ1 f.nd = some (.dstr ((stk S).map fun v => (v, nv (ix v))) ep) by rw [← e1]; exact upd_keep hnd fc.se (fun c => nomatch c)
  have i1 : Its A.al σ₀ σ1 S bs := by rw [← e1]; exact hi.upd (fun o q => by rw [fc.se] at q; cases q) (fun l i q => by rw [fc.se] at q; cases q)
  have nI : σ₀ I = none := sup_none s1 hI
  generalize e2 : σ1.upd I (.liter (A.al n) 0) = σ2 at *
  have s2 : ∀ b y, σ₀ b = some y → σ2 b = some y := by rw [← e2]; exact sup_upd s1 nI
  have se2 : σ2 f.se = some (.sset (xs ++ [n])) := by rw [← e2]; exact upd_fresh se1 hI
  have st2 : σ2 f.st = some (.list ((stk S).map sv)) := by rw [← e2]; exact upd_fresh st1 hI
  have it2 : σ2 f.it = some (.list (bs.reverse.map Value.ref)) := by rw [← e2]; exact upd_fresh it1 hI
  have nd2 : σ2 f.nd = some (.dstr ((stk S).map fun v => (v, nv (ix v))) ep) := by rw [← e2]; exact upd_fresh nd1 hI
  have i2 : Its A.al σ₀ σ2 S bs := by rw [← e2]; exact i1.upd (fun o q => by rw [hI] at q; cases q) (fun l i q => by rw [hI] at q; cases q)
  have I2 : σ2 I = some (.liter (A.al n) 0) := by rw [← e2]; exact Sto.upd_same _ _ _
  have nB : σ₀ bD = none := sup_none s2 hb
  generalize e3 : σ2.upd bD (.raw (nextObj I)) = σ3 at *
  have s3 : ∀ b y, σ₀ b = some y → σ3 b = some y := by rw [← e3]; exact sup_upd s2 nB
  have se3 : σ3 f.se = some (.sset (xs ++ [n])) := by rw [← e3]; exact upd_fresh se2 hb
  have st3 : σ3 f.st = some (.list ((stk S).map sv)) := by rw [← e3]; exact upd_fresh st2 hb
  have it3 : σ3 f.it = some (.list (bs.reverse.map Value.ref)) := by rw [← e3]; exact upd_fresh it2 hb
  have nd3 : σ3 f.nd = some (.dstr ((stk S).map fun v => (v, nv (ix v))) ep) := by rw [← e3]; exact upd_fresh nd2 hb
  have i3 : Its A.al σ₀ σ3 S bs := by rw [← e3]; exact i2.upd (fun o q => by rw [hb] at q; cases q) (fun l i q => by rw [hb] at q; cases q)
  have I3 : σ3 I = some (.liter (A.al n) 0) := by rw [← e3]; exact upd_fresh I2 hb
  have b3 : σ3 bD = some (.raw (nextObj I)) := by rw [← e3]; exact Sto.upd_same _ _ _
  generalize e4 : σ3.upd f.it (.list (bs.reverse.map Value.ref ++ [.ref bD])) = σ4 at *
  have s4 : ∀ b y, σ₀ b = some y → σ4 b = some y := by rw [← e4]; exact sup_upd s3 fc.n2
  have se4 : σ4 f.se = some (.sset (xs ++ [n])) := by rw [← e4]; exact upd_keep se3 it3 (fun c => nomatch c)
  have st4 : σ4 f.st = some (.list ((stk S).map sv)) := by rw [← e4, Sto.upd_ne fc.ne]; exact st3
  have it4 : σ4 f.it = some (.list (bs.reverse.map Value.ref ++ [.ref bD])) := by rw [← e4]; exact Sto.upd_same _ _ _
  have nd4 : σ4 f.nd = some (.dstr ((stk S).map fun v => (v, nv (ix v))) ep) := by rw [← e4]; exact upd_keep nd3 it3 (fun c => nomatch c)
  have i4 : Its A.al σ₀ σ4 S bs := by rw [← e4]; exact i3.upd (fun o q => by rw [it3] at q; cases q) (fun l i q => by rw [it3] at q; cases q)
  have I4 : σ4 I = some (.liter (A.al n) 0) := by rw [← e4]; exact upd_keep I3 it3 (fun c => nomatch c)
  have b4 : σ4 bD = some (.raw (nextObj I)) := by rw [← e4]; exact upd_keep b3 it3 (fun c => nomatch c)
  generalize e5 : σ4.upd f.nd (.dstr ((stk S).map (fun v => (v, nv (ix v))) ++ [(n, nv (stk S).length)]) ep') = σ5 at *
  have s5 : ∀ b y, σ₀ b = some y → σ5 b = some y := by rw [← e5]; exact sup_upd s4 fc.n4
  have se5 : σ5 f.se = some (.sset (xs ++ [n])) := by rw [← e5]; exact upd_keep se4 nd4 (fun c => nomatch c)
  have st5 : σ5 f.st = some (.list ((stk S).map sv)) := by rw [← e5]; exact upd_keep st4 nd4 (fun c => nomatch c)
  have it5 : σ5 f.it = some (.list (bs.reverse.map Value.ref ++ [.ref bD])) := by rw [← e5]; exact upd_keep it4 nd4 (fun c => nomatch c)
  have nd5 : σ5 f.nd = some (.dstr ((stk S).map (fun v => (v, nv (ix v))) ++ [(n, nv (stk S).length)]) ep') := by rw [← e5]; exact Sto.upd_same _ _ _
  have i5 : Its A.al σ₀ σ5 S bs := by rw [← e5]; exact i4.upd (fun o q => by rw [nd4] at q; cases q) (fun l i q => by rw [nd4] at q; cases q)
  have I5 : σ5 I = some (.liter (A.al n) 0) := by rw [← e5]; exact upd_keep I4 nd4 (fun c => nomatch c)
  have b5 : σ5 bD = some (.raw (nextObj I)) := by rw [← e5]; exact upd_keep b4 nd4 (fun c => nomatch c)
  refine ⟨sup_upd s5 fc.n1, ?_, ⟨bD :: bs, ?_, ⟨I, upd_keep b5 st5 (fun c => nomatch c), upd_keep I5 st5 (fun c => nomatch c), nI⟩, i5.upd (fun o q => by rw [st5] at q; cases q) (fun l i q => by rw [st5] at q; cases q)⟩, upd_keep se5 st5 (fun c => nomatch c), ?_, fun v => ?_, ?_, ?_, stk_nodup_push fc.nod hns, fc.clo, fc.n1, fc.n2, fc.n3, fc.n4, fc.ne⟩
  · rw [Sto.upd_same, stk_cons]; simp
  · rw [Sto.upd_ne (Ne.symm fc.ne), it5]; simp
  · refine ⟨ep', fun v => if v = n then (stk S).length else ix v, ?_, fun i v hv => ?_⟩
    · rw [upd_keep nd5 st5 (fun c => nomatch c), stk_cons, List.map_append]
      congr 3
      · refine List.map_congr_left fun v hv => ?_
        have : v ≠ n := fun q => hns (q ▸ hv)
        simp [this]
      · simp
    · rw [stk_cons] at hv
      by_cases q : i < (stk S).length
      · rw [List.getElem?_append_left q] at hv
        have : v ≠ n := fun q => hns (q ▸ List.mem_of_getElem? hv)
        simp [this, hix i v hv]
      · have hl := (List.getElem?_eq_some_iff.mp hv).1
        rw [List.length_append, List.length_singleton] at hl
        have : i = (stk S).length := by omega
        subst this
        rw [List.getElem?_append_right (Nat.le_refl _)] at hv
        simp at hv
        simp [hv]
  · rw [List.mem_append, stk_cons, List.mem_append, fc.mem v]
    constructor
    · rintro ((h | h) | h)
      · exact .inl h
      · exact .inr (.inl h)
      · exact .inr (.inr h)
    · rintro (h | h | h)
      · exact .inl (.inl h)
      · exact .inl (.inr h)
      · exact .inr h
  · rw [List.nodup_append]
    refine ⟨fc.xn, by simp, fun a ha c hc => ?_⟩
    rw [List.mem_singleton.mp hc]
    exact fun q => hx (q ▸ ha)
  · intro v hv
    rcases List.mem_append.mp hv with q | q
    · exact fc.xs v q
    · rw [List.mem_singleton.mp q]; exact hn
theorem stk_inj {S : List (Str × Nat)} {v : Str} {p : Nat} (h : (stk ((v, p) :: S)).Nodup) {u : Str} {q : Nat} (hm : (u, q) ∈ S) : u ≠ v := by
  rw [stk_cons, List.nodup_append] at h
  exact h.2.2 u (mem_stk hm) v (by simp)
theorem Fc.next {v : Str} {p : Nat} (fc : Fc σ₀ A g f σ fin ((v, p) :: S) xs) (hs : SrtAt A g σ₀) {I : Addr} (hI : σ I = some (.liter (A.al v) p)) (nI : σ₀ I = none) {bs : List Addr} {bD : Addr} (hit : σ f.it = some (.list ((bD :: bs).reverse.map Value.ref))) (hb : σ bD = some (.raw (nextObj I))) (hi : Its A.al σ₀ σ S bs) :
    Fc σ₀ A g f (σ.upd I (.liter (A.al v) (p + 1))) fin ((v, p + 1) :: S) xs := by
  have hst : stk ((v, p + 1) :: S) = stk ((v, p) :: S) := by rw [stk_cons, stk_cons]
  have hvn : v ∈ g.names := fc.stkn (by rw [stk_cons]; simp)
  obtain ⟨ep, ix, hnd, hix⟩ := fc.nd
  refine ⟨sup_upd fc.sup nI, by rw [hst]; exact upd_keep fc.st hI (fun c => nomatch c), ⟨bD :: bs, upd_keep hit hI (fun c => nomatch c), ⟨I, upd_keep hb hI (fun c => nomatch c), Sto.upd_same _ _ _, nI⟩, hi.turn hI fun u q hm e => ?_⟩, upd_keep fc.se hI (fun c => nomatch c),
    ⟨ep, ix, by rw [hst]; exact upd_keep hnd hI (fun c => nomatch c), by rw [hst]; exact hix⟩, by rw [hst]; exact fc.mem, fc.xn, fc.xs, by rw [hst]; exact fc.nod, fc.clo, fc.n1, fc.n2, fc.n3, fc.n4, fc.ne⟩
  exact stk_inj fc.nod hm (hs.inj u (fc.stkn (by rw [stk_cons]; exact List.mem_append_left _ (mem_stk hm))) v hvn e)
theorem Fc.pop {v : Str} {p : Nat} (fc : Fc σ₀ A g f σ fin ((v, p) :: S) xs) (hs : SrtAt A g σ₀) {I : Addr} {o1 : Obj} {ep' : Nat} (hI : σ I = some (.liter (A.al v) p)) (nI : σ₀ I = none) {bs : List Addr} {bD : Addr} {ix : Str → Nat} {ep : Nat} (hit : σ f.it = some (.list ((bD :: bs).reverse.map Value.ref))) (hi : Its A.al σ₀ σ S bs)
    (hnd : σ f.nd = some (.dstr ((stk ((v, p) :: S)).map fun v => (v, nv (ix v))) ep)) (hix : ∀ (i : Nat) (u : Str), (stk ((v, p) :: S))[i]? = some u → ix u = i) (hall : ∀ u ∈ g.su v, u ∈ fin) :
    Fc σ₀ A g f ((((σ.upd I (.raw o1)).upd f.st (.list ((stk S).map sv))).upd f.nd (.dstr (without ((stk ((v, p) :: S)).map fun v => (v, nv (ix v))) v) ep')).upd f.it (.list (bs.reverse.map Value.ref))) (fin ++ [v]) S xs := by
  have hvn : v ∈ g.names := fc.stkn (by rw [stk_cons]; simp)
  have hns : v ∉ stk S := fun q => by
    have h := fc.nod
    rw [stk_cons, List.nodup_append] at h
    exact h.2.2 v q v (by simp) rfl
  generalize e1 : σ.upd I (.raw o1) = σ1
  have s1 : ∀ b y, σ₀ b = some y → σ1 b = some y := by rw [← e1]; exact sup_upd fc.sup nI
  have st1 : σ1 f.st = some (.list ((stk ((v, p) :: S)).map sv)) := by rw [← e1]; exact upd_keep fc.st hI (fun c => nomatch c)
  have it1 : σ1 f.it = some (.list ((bD :: bs).reverse.map Value.ref)) := by rw [← e1]; exact upd_keep hit hI (fun c => nomatch c)
  have se1 : σ1 f.se = some (.sset xs) := by rw [← e1]; exact upd_keep fc.se hI (fun c => nomatch c)
  have nd1 : σ1 f.nd = some (.dstr ((stk ((v, p) :: S)).map fun v => (v, nv (ix v))) ep) := by rw [← e1]; exact upd_keep hnd hI (fun c => nomatch c)
  have i1 : Its A.al σ₀ σ1 S bs := by
    rw [← e1]
    exact hi.turn hI fun u q hm e => stk_inj fc.nod hm (hs.inj u (fc.stkn (by rw [stk_cons]; exact List.mem_append_left _ (mem_stk hm))) v hvn e)
  generalize e2 : σ1.upd f.st (.list ((stk S).map sv)) = σ2
  have s2 : ∀ b y, σ₀ b = some y → σ2 b = some y := by rw [← e2]; exact sup_upd s1 fc.n1
  have st2 : σ2 f.st = some (.list ((stk S).map sv)) := by rw [← e2]; exact Sto.upd_same _ _ _
  have it2 : σ2 f.it = some (.list ((bD :: bs).reverse.map Value.ref)) := by rw [← e2, Sto.upd_ne (Ne.symm fc.ne)]; exact it1
  have se2 : σ2 f.se = some (.sset xs) := by rw [← e2]; exact upd_keep se1 st1 (fun c => nomatch c)
  have nd2 : σ2 f.nd = some (.dstr ((stk ((v, p) :: S)).map fun v => (v, nv (ix v))) ep) := by rw [← e2]; exact upd_keep nd1 st1 (fun c => nomatch c)
  have i2 : Its A.al σ₀ σ2 S bs := by rw [← e2]; exact i1.upd (fun o q => by rw [st1] at q; cases q) (fun l i q => by rw [st1] at q; cases q)
  generalize e3 : σ2.upd f.nd (.dstr (without ((stk ((v, p) :: S)).map fun v => (v, nv (ix v))) v) ep') = σ3
  have s3 : ∀ b y, σ₀ b = some y → σ3 b = some y := by rw [← e3]; exact sup_upd s2 fc.n4
  have st3 : σ3 f.st = some (.list ((stk S).map sv)) := by rw [← e3]; exact upd_keep st2 nd2 (fun c => nomatch c)
  have it3 : σ3 f.it = some (.list ((bD :: bs).reverse.map Value.ref)) := by rw [← e3]; exact upd_keep it2 nd2 (fun c => nomatch c)
  have se3 : σ3 f.se = some (.sset xs) := by rw [← e3]; exact upd_keep se2 nd2 (fun c => nomatch c)
  have nd3 : σ3 f.nd = some (.dstr (without ((stk ((v, p) :: S)).map fun v => (v, nv (ix v))) v) ep') := by rw [← e3]; exact Sto.upd_same _ _ _
  have i3 : Its A.al σ₀ σ3 S bs := by rw [← e3]; exact i2.upd (fun o q => by rw [nd2] at q; cases q) (fun l i q => by rw [nd2] at q; cases q)
  have hw : without ((stk ((v, p) :: S)).map fun v => (v, nv (ix v))) v = (stk S).map fun v => (v, nv (ix v)) := by
    unfold without
    rw [stk_cons, List.map_append, List.filter_append]
    have h1 : (List.map (fun v => (v, nv (ix v))) [v]).filter (fun kv => decide (kv.1 ≠ v)) = [] := by simp
    rw [h1, List.append_nil, List.filter_eq_self]
    intro kv hkv
    obtain ⟨u, hu, rfl⟩ := List.mem_map.mp hkv
    have : u ≠ v := fun q => hns (q ▸ hu)
    simp [this]
  refine ⟨sup_upd s3 fc.n2, by rw [Sto.upd_ne fc.ne]; exact st3, ⟨bs, Sto.upd_same _ _ _, i3.upd (fun o q => by rw [it3] at q; cases q) (fun l i q => by rw [it3] at q; cases q)⟩, upd_keep se3 it3 (fun c => nomatch c),
    ⟨ep', ix, by rw [upd_keep nd3 it3 (fun c => nomatch c), hw], fun i u hu => hix i u (by rw [stk_cons, List.getElem?_append_left (List.getElem?_eq_some_iff.mp hu).1]; exact hu)⟩, fun u => ?_, fc.xn, fc.xs, ?_, fc.clo.snoc hall, fc.n1, fc.n2, fc.n3, fc.n4, fc.ne⟩
  · rw [fc.mem u, stk_cons, List.mem_append, List.mem_append]
    constructor
    · rintro (h | h | h)
      · exact .inl (.inl h)
      · exact .inr h
      · exact .inl (.inr h)
    · rintro ((h | h) | h)
      · exact .inl h
      · exact .inr (.inr h)
      · exact .inr (.inl h)
  · have h := fc.nod
    rw [stk_cons, List.nodup_append] at h
    exact h.1
end
structure Fv (A : Ad) (f : Fa) (m : Map) : Prop where
  v1 : m (Str.ofString "self") = some (.ref A.x)
  v2 : m (Str.ofString "n2i") = some (.ref A.d)
  v3 : m (Str.ofString "stack") = some (.ref f.st)
  v4 : m (Str.ofString "itstack") = some (.ref f.it)
  v5 : m (Str.ofString "seen") = some (.ref f.se)
  v6 : m (Str.ofString "node2stacki") = some (.ref f.nd)
theorem Fv.node {A : Ad} {f : Fa} {m : Map} {v : Value} (h : Fv A f m) : Fv A f (Map.set m (Str.ofString "node") v) := ⟨h.v1, h.v2, h.v3, h.v4, h.v5, h.v6⟩
def FcQ (g : Gr) (σ : Sto) (r : Value) (σ' : Sto) : Prop := (∀ a y, σ a = some y → σ' a = some y) ∧ ((r = .none ∧ Acy g.names g.su) ∨ ∃ D c n, r = .ref D ∧ σ D = none ∧ σ' D = some (.list (((n :: c) ++ [n]).map sv)) ∧ Ring g.names g.su (n :: c))
noncomputable def ob_fcycle (w : World) : {o // (K1 w).lookup 144 = some o} := ⟨_, rfl⟩
noncomputable def fd_fcycle (w : World) : {fd // (ob_fcycle w).1.data = .func fd} := ⟨_, rfl⟩
noncomputable def bd_fcycle (w : World) : {b // (fd_fcycle w).1.body = .stmts b} := ⟨_, rfl⟩
noncomputable def cx_fcycle (w : World) (h₀ : Heap) (A : Around) (L : Addr) : Cx := ⟨prog1, w, h₀, A, callEnvC (fd_fcycle w).1 L 144, botE⟩
inductive FcA (A : Ad) (g : Gr) (σ : Sto) (f : Fa) (i : Nat) (m' : Map) (σ' : Sto) : Prop
  | mk (q1 : Fv A f m') (fin) (xs) (q2 : Fc σ A g f σ' fin [] xs) (q3 : ∀ v ∈ g.names.take i, v ∈ xs) : FcA A g σ f i m' σ'
inductive FcB (A : Ad) (g : Gr) (σ : Sto) (f : Fa) (i : Nat) (n : Str) (k : Nat) (m' : Map) (σ' : Sto) : Prop
  | mk (n1) (fin) (S) (xs) (q1 : m' (Str.ofString "node") = some (sv n1)) (q2 : n1 ∈ g.names) (q3 : Fv A f m') (q4 : Fc σ A g f σ' fin S xs) (q5 : Chn g.su fin S (some n1)) (q6 : (∀ v ∈ g.names.take i, v ∈ xs)) (q7 : (n ∈ xs ∨ (S = [] ∧ n1 = n))) (q8 : k = Wt g.names g.su xs + Pt g.su S) : FcB A g σ f i n k m' σ'
inductive FcC (A : Ad) (g : Gr) (σ : Sto) (f : Fa) (i : Nat) (n : Str) (xs : List Str) (S : List (Str × Nat)) (k : Nat) (m' : Map) (σ' : Sto) : Prop
  | mk (fin) (S') (xs') (q1 : Fv A f m') (q2 : Fc σ A g f σ' fin S' xs') (q3 : Chn g.su fin S' none) (q4 : (∀ v ∈ g.names.take i, v ∈ xs')) (q5 : n ∈ xs') (q6 : Wt g.names g.su xs' + Pt g.su S' ≤ Wt g.names g.su xs + Pt g.su S) (q7 : k = Pt g.su S') : FcC A g σ f i n xs S k m' σ'
set_option maxHeartbeats 4000000 in
theorem fn_fcycle {w : World} {h₀ : Heap} (b : Bs w h₀) {σ : Sto} {x : Addr} {F : Addr → Prop} {g : Gr} (hs : Srt x F g σ) (hc : ∀ v ∈ g.names, ∀ u ∈ g.su v, u ∈ g.names) (hz : g.names.length ≤ 60) (hsz : ∀ v ∈ g.names, (g.su v).length ≤ 100000) :
    Fn prog1 w h₀ 2 (.ref 144) [.ref x] (FcQ g σ) botF σ := by
  refine fn_plainF (o := (ob_fcycle w).1) (fd := (fd_fcycle w).1) (body := (bd_fcycle w).1) (names := [("self" : Str)]) (b.X 144 _ (ob_fcycle w).2) (fd_fcycle w).2 (bd_fcycle w).2 (by rfl) b.nolimit (b.code (c := 143) (by rfl) (by rfl) (by rfl)) ?_ (by rfl) (by intro _; rfl) ?_
  · intro vals hv
    obtain ⟨a, rfl, _⟩ := inv1 hv
    rfl
  · intro Ar L room hfr hL
    show (cx_fcycle w h₀ Ar L).W (execs (bd_fcycle w).1 (cx_fcycle w h₀ Ar L).env) _ _ _
    obtain ⟨A, rfl, hs, hF⟩ := hs
    have X : (K1 w).In (cx_fcycle w h₀ Ar L).h₀ := b.X
    have hp := b.past
    have hlen := len_glob b
    have hset : GV (cx_fcycle w h₀ Ar L).h₀ "set" (.type "set") := b.built (by rfl) (by rfl) (by decide)
    have hiter : GV (cx_fcycle w h₀ Ar L).h₀ "iter" (.builtin "iter") := b.built (by rfl) (by rfl) (by decide)
    have hstop : GV (cx_fcycle w h₀ Ar L).h₀ "StopIteration" (.type "StopIteration") := b.built (by rfl) (by rfl) (by decide)
    refine s_cons ?_
    repeat walk_at "w"
    refine a_own X hs.inst (by rfl) ?_ (by rfl) (by rfl) (by rfl) (by rfl) (by rfl)
    repeat walk_at "w"
    refine ⟨by walk_at "sz", fun a_st h1 => ?_⟩
    repeat walk_at "w"
    refine ⟨by walk_at "sz", fun a_it h2 => ?_⟩
    repeat walk_at "w"
    refine c_set0 fun a_se h3 => ?_
    repeat walk_at "w"
    intro a_nd h4
    repeat walk_at "w"
    refine s_for ?_
    repeat walk_at "w"
    have n2 : σ a_it = none := sup_none (sup_upd (fun _ _ e => e) h1) h2
    have n3 : σ a_se = none := sup_none (sup_upd (sup_upd (fun _ _ e => e) h1) n2) h3
    have n4 : σ a_nd = none := sup_none (sup_upd (sup_upd (sup_upd (fun _ _ e => e) h1) n2) n3) h4
    refine ⟨_, _, FcA A g σ ⟨a_st, a_it, a_se, a_nd⟩, iters_dict b.past, ?_, fun i m' σ' q => by obtain ⟨_, _, _, z, _⟩ := q; exact z.sup _ _ hs.dict, ?_, ?_⟩
    · refine ⟨⟨rfl, rfl, rfl, rfl, rfl, rfl⟩, [], [], ⟨sup_upd (sup_upd (sup_upd (sup_upd (fun _ _ e => e) h1) n2) n3) n4, upd_fresh (upd_fresh (upd_fresh (Sto.upd_same _ _ _) h2) h3) h4, ⟨[], upd_fresh (upd_fresh (Sto.upd_same _ _ _) h3) h4, trivial⟩, upd_fresh (Sto.upd_same _ _ _) h4,
        ⟨0, fun _ => 0, Sto.upd_same _ _ _, fun i v q => by simp [stk] at q⟩, fun v => by simp [stk], List.nodup_nil, fun v q => by simp at q, List.nodup_nil, Clo.nil _, h1, n2, n3, n4, ?_⟩, fun v q => by simp at q⟩
      show a_st ≠ a_it
      intro q
      rw [← q, Sto.upd_same] at h2
      cases h2
    · rintro i u m₁ σ₁ hu ⟨hv, fin, xs, fc, hx⟩
      rw [List.getElem?_map, List.getElem?_map, Option.map_map, Option.map_eq_some_iff] at hu
      obtain ⟨n, hn, rfl⟩ := hu
      have hnm : n ∈ g.names := List.mem_of_getElem? hn
      have htk : g.names.take (i + 1) = g.names.take i ++ [n] := by rw [List.take_add_one, hn]; rfl
      show put1 _ _ (sv n) _ _ _
      refine put_local ?_ (by rfl) (by rfl)
      obtain ⟨v1, v2, v3, v4, v5, v6⟩ := id hv
      refine s_cons ?_
      repeat walk_at "w"
      refine o_inset fc.se (by have := fc.xlen; unfold scanBound; omega) ?_
      repeat walk_at "w"
      refine if_b (fun hb => ?_) (fun hb => ?_)
      · repeat walk_at "w"
        refine ⟨hv.node, fin, xs, fc, fun v hm => ?_⟩
        rw [htk] at hm
        rcases List.mem_append.mp hm with q | q
        · exact hx v q
        · rw [List.mem_singleton.mp q]; exact of_decide_eq_true hb
      · repeat walk_at "w"
        refine s_while (FcB A g σ ⟨a_st, a_it, a_se, a_nd⟩ i n) _
          ⟨n, fin, [], xs, rfl, hnm, hv.node, fc, trivial, hx, .inr ⟨rfl, rfl⟩, rfl⟩ ?_
        rintro k m₂ σ₂ ⟨n1, fin, S, xs, hn1, hm1, hv, fc, ch, hx, h0, rfl⟩
        obtain ⟨v1, v2, v3, v4, v5, v6⟩ := id hv
        walk_at "t"
        walk_at "e"
        walk_at "o"
        walk_at "f"
        refine s_cons (WE.mono1 (Q := fun fl m' σ' => (fl = .next ∧ ∃ fin S' xs', Fv A ⟨a_st, a_it, a_se, a_nd⟩ m' ∧ Fc σ A g ⟨a_st, a_it, a_se, a_nd⟩ σ' fin S' xs' ∧ Chn g.su fin S' none ∧ (∀ v ∈ g.names.take i, v ∈ xs') ∧ n ∈ xs' ∧ Wt g.names g.su xs' + Pt g.su S' ≤ Wt g.names g.su xs + Pt g.su S) ∨ ∃ r, fl = .ret r ∧ FcQ g σ (er r) σ') ?_ ?_)
        · obtain ⟨ep, ix, hnd, hix⟩ := fc.nd
          obtain ⟨bs, hit, hits⟩ := fc.it
          repeat walk_at "w"
          refine o_inset fc.se (by have := fc.xlen; unfold scanBound; omega) ?_
          repeat walk_at "w"
          refine if_b (fun hb => ?_) (fun hb => ?_)
          · have hb := of_decide_eq_true hb
            repeat walk_at "w"
            refine o_ind b.past hnd ?_
            repeat walk_at "w"
            rw [valueAt_names]
            refine if_b (fun hq => ?_) (fun hq => ?_)
            · have hq : n1 ∈ stk S := by
                by_cases q : n1 ∈ stk S
                · exact q
                · rw [if_neg q] at hq; cases hq
              repeat walk_at "w"
              refine ⟨got_dict hnd, o_getd (v := nv (ix n1)) hnd (by rw [valueAt_names, if_pos hq]) ?_⟩
              repeat walk_at "w"
              have hsl := fc.stklen
              refine sl_list fc.st (by rw [List.length_map, sizeLine_eq]; omega) fun D hD => ?_
              repeat walk_at "w"
              refine ⟨by walk_at "sz", fun D2 hD2 => ?_⟩
              refine o_addl (upd_fresh (Sto.upd_same _ _ _) hD2) (Sto.upd_same _ _ _) (by have := cut_length (some (ix n1 : Int)) none ((stk S).map sv); rw [List.length_map] at this; rw [sizeLine_eq]; simp only [List.length_cons, List.length_nil]; omega) fun D3 hD3 => ?_
              intro v' hv'
              have s1 := sup_upd fc.sup (sup_none fc.sup hD) (w := .list (cut (some (ix n1 : Int)) none ((stk S).map sv)))
              have s2 := sup_upd s1 (sup_none s1 hD2) (w := .list [sv n1])
              obtain ⟨j, hj⟩ := List.getElem?_of_mem hq
              have hij := hix j n1 hj
              obtain ⟨hjl, hje⟩ := List.getElem?_eq_some_iff.mp hj
              have hdr : (stk S).drop j = n1 :: (stk S).drop (j + 1) := by rw [List.drop_eq_getElem_cons hjl, hje]
              refine .inr ⟨v', rfl, sup_upd s2 (sup_none s2 hD3), .inr ⟨D3, (stk S).drop (j + 1), n1, hv', sup_none s2 hD3, ?_, n1, _, rfl, ?_, fun u hu => ?_, ?_⟩⟩
              · rw [Sto.upd_same, hij, cut_from, ← hdr, ← List.map_drop]
                simp
              · rw [← hdr]
                exact List.Nodup.sublist (List.drop_sublist _ _) fc.nod
              · rw [← hdr] at hu
                exact fc.stkn (List.mem_of_mem_drop hu)
              · have := ch.path.drop j
                rw [List.drop_append_of_le_length (Nat.le_of_lt hjl), hdr] at this
                exact this
            · have hq : n1 ∉ stk S := fun q => by rw [if_pos q] at hq; cases hq
              repeat walk_at "w"
              refine .inl ⟨rfl, fin, S, xs, hv, fc, ch.past (((fc.mem n1).mp hb).resolve_right hq), hx, ?_, Nat.le_refl _⟩
              rcases h0 with h0 | ⟨_, q⟩
              · exact h0
              · rw [← q]; exact hb
          · have hb := of_decide_eq_false hb
            have hns : n1 ∉ stk S := fun q => hb ((fc.mem n1).mpr (.inr q))
            have hxl := fc.xlen
            have hsl := fc.stklen
            have hbl := hits.len
            have hsS : (stk S).length = S.length := by simp [stk]
            repeat walk_at "w"
            refine m_set fc.se (by unfold scanBound; omega) ?_
            repeat walk_at "w"
            refine c_setadd fc.se (by unfold scanBound; omega) hb ?_
            have s1 := sup_upd fc.sup fc.n3 (w := .sset (xs ++ [n1]))
            have it1 : (σ₂.upd a_se (.sset (xs ++ [n1]))) a_it = some (.list (bs.reverse.map Value.ref)) := upd_keep hit fc.se (fun c => nomatch c)
            have st1 : (σ₂.upd a_se (.sset (xs ++ [n1]))) a_st = some (.list ((stk S).map sv)) := upd_keep fc.st fc.se (fun c => nomatch c)
            have nd1 := upd_keep (w := .sset (xs ++ [n1])) hnd fc.se (fun c => nomatch c)
            repeat walk_at "w"
            refine m_list it1 ?_ PySem.F.slot_list_append
            repeat walk_at "w"
            refine ⟨got_dict (s1 _ _ hs.dict), o_getd (s1 _ _ hs.dict) (by rw [valueAt_names, if_pos hm1]) ?_⟩
            refine a_slot (k := 2) X ⟨s1 _ _ (hs.node n1 hm1).1, s1 _ _ (hs.node n1 hm1).2⟩ (by rfl) ?_ (by rfl) (by rfl) (by rfl) (by rfl) (by rfl) (by rfl) (by rfl)
            repeat walk_at "w"
            refine c_iter (s1 _ _ (hs.succ n1 hm1)) fun I hI => ?_
            have nI := sup_none s1 hI
            repeat walk_at "w"
            refine a_next (Sto.upd_same _ _ _) fun bD hbD => ?_
            repeat walk_at "w"
            have it3 := upd_fresh (w := .raw (nextObj I)) (upd_fresh (w := .liter (A.al n1) 0) it1 hI) hbD
            have st3 := upd_fresh (w := .raw (nextObj I)) (upd_fresh (w := .liter (A.al n1) 0) st1 hI) hbD
            have nd3 := upd_fresh (w := .raw (nextObj I)) (upd_fresh (w := .liter (A.al n1) 0) nd1 hI) hbD
            refine c_append it3 (by rw [List.length_map, List.length_reverse, sizeLine_eq]; omega) ?_
            repeat walk_at "w"
            have st4 : ((((σ₂.upd a_se (.sset (xs ++ [n1]))).upd I (.liter (A.al n1) 0)).upd bD (.raw (nextObj I))).upd a_it (.list (bs.reverse.map Value.ref ++ [.ref bD]))) a_st = some (.list ((stk S).map sv)) := by rw [Sto.upd_ne fc.ne]; exact st3
            have nd4 := upd_keep (w := .list (bs.reverse.map Value.ref ++ [.ref bD])) nd3 it3 (fun c => nomatch c)
            refine c_len_list st4 (by rw [List.length_map, sizeLine_eq]; omega) ?_
            repeat walk_at "w"
            refine set_d nd4 (by rw [List.length_map, sizeLine_eq]; omega) fun ep' => ?_
            rw [stored_new hns, List.length_map]
            have st5 := upd_keep (w := .dstr ((stk S).map (fun v => (v, nv (ix v))) ++ [(n1, nv (stk S).length)]) ep') st4 nd4 (fun c => nomatch c)
            repeat walk_at "w"
            refine m_list st5 ?_ PySem.F.slot_list_append
            repeat walk_at "w"
            refine c_append st5 (by rw [List.length_map, sizeLine_eq]; omega) ?_
            repeat walk_at "w"
            refine .inl ⟨rfl, fin, (n1, 0) :: S, xs ++ [n1], hv, fc.push hm1 hb hit hits hnd hix hI hbD, ch.push, fun v hv => List.mem_append_left _ (hx v hv), ?_, ?_⟩
            · rcases h0 with h0 | ⟨_, q⟩
              · exact List.mem_append_left _ h0
              · rw [← q]; simp
            · have := Wt_add (su := g.su) hs.nod hm1 hb
              rw [Pt_cons]
              omega
        · rintro fl m₃ σ₃ (⟨rfl, fin', S', xs', hv, fc, ch, hx, hnx, hk⟩ | ⟨r, rfl, hr⟩)
          · show (cx_fcycle w h₀ Ar L).bot.bot.W (execs _ _) _ _ _
            refine s_cons ?_
            refine s_whileE (FcC A g σ ⟨a_st, a_it, a_se, a_nd⟩ i n xs S) _
              ⟨fin', S', xs', hv, fc, ch, hx, hnx, hk, rfl⟩ ?_
            rintro k m₄ σ₄ ⟨fin, T, ys, hv, fc, ch, hx, hnx, hk, rfl⟩
            obtain ⟨v1, v2, v3, v4, v5, v6⟩ := id hv
            have hsl := fc.stklen
            repeat walk_at "w"
            refine test_list fc.st (by rw [List.length_map, sizeLine_eq]; omega) ?_
            refine if_b (fun hb => ?_) (fun hb => ?_)
            · cases T with
              | nil => simp [stk] at hb
              | cons vp T =>
                obtain ⟨v, p⟩ := vp
                obtain ⟨bs, hit, hits⟩ := fc.it
                cases bs with
                | nil => exact hits.elim
                | cons bD bs =>
                obtain ⟨⟨I, hbD, hI, nI⟩, hits⟩ := hits
                refine s_cons ?_
                refine s_try hfr ?_
                refine s_cons ?_
                repeat walk_at "w"
                have hst : (bD :: bs).reverse.map Value.ref = bs.reverse.map Value.ref ++ [.ref bD] := by simp
                have hbl := hits.len
                have hTl : (stk ((v, p) :: T)).length = T.length + 1 := by simp [stk]
                have hvn : v ∈ g.names := fc.stkn (by rw [stk_cons]; simp)
                refine ⟨got_list hit, o_getlast (by rw [hit, hst]) (by rw [List.length_map, List.length_reverse]; omega) ?_⟩
                repeat walk_at "w"
                refine cw_nil (keeps_nextw hbD) ?_
                rw [Pt_cons] at hk ⊢
                by_cases hpl : p < (g.su v).length
                · obtain ⟨u, hu⟩ : ∃ u, (g.su v)[p]? = some u := ⟨_, List.getElem?_eq_getElem hpl⟩
                  refine c_next hbD hI (fc.sup _ _ (hs.succ v hvn)) (by rw [List.getElem?_map, hu]; rfl) ?_
                  repeat walk_at "w"
                  refine ⟨Wt g.names g.su ys + Pt g.su ((v, p + 1) :: T), by rw [Pt_cons]; omega, u, fin, (v, p + 1) :: T, ys, rfl, hc v hvn u (List.mem_of_getElem? hu), hv.node, fc.next hs hI nI hit hbD hits, ch.next hu, hx, .inl hnx, rfl⟩
                · have hpe : p = (g.su v).length := Nat.le_antisymm ch.1 (Nat.le_of_not_lt hpl)
                  subst hpe
                  refine c_next_end hbD (by rw [List.length_map]; exact hI) (fc.sup _ _ (hs.succ v hvn)) fun o1 e oe t ee eI hex => ?_
                  refine ⟨e, false, _, _, rfl, hex, catches_stop hstop, ?_⟩
                  rw [Sto.drop_upd (by rw [Sto.upd_ne eI]; exact ee)]
                  obtain ⟨ep, ix, hnd, hix⟩ := fc.nd
                  have hst2 : (stk ((v, (g.su v).length) :: T)).map sv = (stk T).map sv ++ [sv v] := by rw [stk_cons, List.map_append]; rfl
                  have st1 : (σ₄.upd I (.raw o1)) a_st = some (.list ((stk T).map sv ++ [sv v])) := by rw [← hst2]; exact upd_keep fc.st hI (fun c => nomatch c)
                  have it1 : (σ₄.upd I (.raw o1)) a_it = some (.list (bs.reverse.map Value.ref ++ [.ref bD])) := by rw [← hst]; exact upd_keep hit hI (fun c => nomatch c)
                  have nd1 := upd_keep (w := .raw o1) hnd hI (fun c => nomatch c)
                  refine s_cons ?_
                  repeat walk_at "w"
                  refine m_list st1 ?_ PySem.F.slot_list_pop
                  repeat walk_at "w"
                  refine c_pop st1 (by rw [List.length_map, sizeLine_eq]; rw [hTl] at hsl; simp [stk]; omega) ?_
                  have nd2 := upd_keep (w := .list ((stk T).map sv)) nd1 st1 (fun c => nomatch c)
                  have it2 : ((σ₄.upd I (.raw o1)).upd a_st (.list ((stk T).map sv))) a_it = some (.list (bs.reverse.map Value.ref ++ [.ref bD])) := by rw [Sto.upd_ne (Ne.symm fc.ne)]; exact it1
                  refine del_d nd2 (by rw [List.length_map, sizeLine_eq]; omega) (by rw [valueAt_names, if_pos (by rw [stk_cons]; simp)]; rfl) fun ep' => ?_
                  have it3 := upd_keep (w := .dstr (without ((stk ((v, (g.su v).length) :: T)).map fun v => (v, nv (ix v))) v) ep') it2 nd2 (fun c => nomatch c)
                  repeat walk_at "w"
                  refine m_list it3 ?_ PySem.F.slot_list_pop
                  repeat walk_at "w"
                  refine c_pop it3 (by rw [List.length_map, List.length_reverse, sizeLine_eq]; omega) ?_
                  repeat walk_at "w"
                  exact ⟨Pt g.su T, by omega, fin ++ [v], T, ys, hv, fc.pop hs hI nI hit hits hnd hix ch.all, ch.pop, hx, hnx, by omega, rfl⟩
            · have hT : T = [] := by
                cases T with
                | nil => rfl
                | cons a b => simp [stk] at hb
              subst hT
              repeat walk_at "w"
              refine ⟨hv, fin, ys, fc, fun u hu => ?_⟩
              rw [htk] at hu
              rcases List.mem_append.mp hu with q | q
              · exact hx u q
              · rw [List.mem_singleton.mp q]; exact hnx
          · exact hr
    · rintro m₁ σ₁ ⟨hv, fin, xs, fc, hx⟩
      rw [List.length_map, List.length_map, List.take_length] at hx
      repeat walk_at "w"
      intro v' hv'
      refine ⟨fc.sup, .inl ⟨hv', fc.clo.acy fun v hv => ?_⟩⟩
      have := (fc.mem v).mp (hx v hv)
      simpa [stk] using this
end
section
theorem cls_cycle {w : World} {h₀ : Heap} (b : Bs w h₀) : ∃ D, ExcCls h₀ 72 D :=
  let ⟨_, _, _, _, _, T⟩ := b.T
  excCls_of b.X T (x := "CycleError") (bmB := [.type "ValueError", .type "Exception", .type "BaseException", .type "object"]) (newId := "ValueError.__new__") (by rfl) (by kernel_rfl) PySem.F.excBase_ValueError
theorem SrtAt.dom {A : Ad} {g : Gr} {σ : Sto} (h : SrtAt A g σ) {a : Addr} (f : A.foot g a) : σ a ≠ none := by
  have k : ∀ {b y}, σ b = some y → σ b ≠ none := fun e q => by rw [e] at q; cases q
  rcases f with rfl | rfl | rfl | ⟨v, hv, rfl | rfl | rfl⟩ | ⟨hr, rfl⟩
  · exact k h.inst.1
  · exact k h.inst.2
  · exact k h.dict
  · exact k (h.node v hv).1
  · exact k (h.node v hv).2
  · exact k (h.succ v hv)
  · cases q : g.rd with
    | none => exact absurd q hr
    | some rs => exact k (h.rdy rs q).1
def Gr.prep (g : Gr) : Gr := { g with rd := some (g.names.filter fun v => g.np v == 0) }
def Ad.rdy (A : Ad) (D : Addr) : Ad := { A with r := D }
theorem Ext.sup {A A' : Ad} {g g' : Gr} {σ σ' σ'' : Sto} (x : Ext A g σ A' g' σ') (k : ∀ a y, σ' a = some y → σ'' a = some y) : Ext A g σ A' g' σ'' := ⟨x.x, x.at_.sup k, x.foot, fun a y e n => k _ _ (x.off a y e n)⟩
theorem Ext.setRdy {A : Ad} {g : Gr} {σ σ' : Sto} {R : Addr} {rs : List Str} (h : SrtAt A g σ) (hr : g.rd = none) (hn : σ R = none) (k : ∀ a y, σ a = some y → σ' a = some y) (hR : σ' R = some (.list (rs.map sv))) :
    Ext A g σ (A.rdy R) { g with rd := some rs } (σ'.upd A.dx (.attrs ((A.rdy R).attrs { g with rd := some rs }))) := by
  have h' := h.sup k
  have hx := h'.inst.2
  refine ⟨rfl, ⟨h'.inst.upd, upd_keep h'.dict hx (fun c => nomatch c), fun u hu => (h'.node u hu).keep hx (fun c => nomatch c) (fun c => nomatch c), fun u hu => upd_keep (h'.succ u hu) hx (fun c => nomatch c), fun q hq => ?_, h.inj, h.nod⟩, fun a f => ?_, fun a y e n => ?_⟩
  · have : q = rs := (Option.some.inj hq).symm
    subst this
    exact ⟨upd_keep hR hx (fun c => nomatch c), fun v hv => ne_of_none (h.succ v hv) hn⟩
  · rcases f with q | q | q | q | ⟨_, q⟩
    · exact .inl (.inl q)
    · exact .inl (.inr (.inl q))
    · exact .inl (.inr (.inr (.inl q)))
    · exact .inl (.inr (.inr (.inr (.inl q))))
    · exact .inr (by rw [q]; exact hn)
  · rw [Sto.upd_ne (fun q => n (by rw [q]; exact .inr (.inl rfl)))]
    exact k _ _ e
noncomputable def ob_prep (w : World) : {o // (K1 w).lookup 109 = some o} := ⟨_, rfl⟩
noncomputable def fd_prep (w : World) : {fd // (ob_prep w).1.data = .func fd} := ⟨_, rfl⟩
noncomputable def bd_prep (w : World) : {b // (fd_prep w).1.body = .stmts b} := ⟨_, rfl⟩
noncomputable def cx_prep (w : World) (h₀ : Heap) (A : Around) (L : Addr) : Cx := ⟨prog1, w, h₀, A, callEnvC (fd_prep w).1 L 109, botE⟩
@[reducible] def PrepPost (x : Addr) (F : Addr → Prop) (g : Gr) (σ : Sto) (r : Value) (σ' : Sto) : Prop := ∃ F', r = .none ∧ Acy g.names g.su ∧ Srt x F' g.prep σ' ∧ Left F F' σ σ'
@[reducible] def PrepExc (x : Addr) (F : Addr → Prop) (g : Gr) (σ : Sto) (v : Value) (σ' : Sto) : Prop := ∃ F' e a0 c, v = .ref e ∧ ExcIn σ' e true (.ref 72) a0 .none ∧ Ring g.names g.su c ∧ Srt x F' g.prep σ' ∧ Left F F' σ σ' ∧ σ e = none
set_option maxHeartbeats 4000000 in
theorem fn_prep {w : World} {h₀ : Heap} (b : Bs w h₀) {σ : Sto} {x : Addr} {F : Addr → Prop} {g : Gr} (hs : Srt x F g σ) (hr : g.rd = none) (hc : ∀ v ∈ g.names, ∀ u ∈ g.su v, u ∈ g.names) (hz : g.names.length ≤ 60) (hsz : ∀ v ∈ g.names, (g.su v).length ≤ 100000) :
    Fn prog1 w h₀ 44 (.ref 109) [.ref x] (PrepPost x F g σ)
      (PrepExc x F g σ) σ := by
  refine fn_plainE (o := (ob_prep w).1) (fd := (fd_prep w).1) (body := (bd_prep w).1) (names := [("self" : Str)]) (b.X 109 _ (ob_prep w).2) (fd_prep w).2 (bd_prep w).2 (by rfl) b.nolimit (b.code (c := 108) (by rfl) (by rfl) (by rfl)) ?_ (by rfl) (by intro _; rfl) ?_
  · intro vals hv
    obtain ⟨a, rfl, _⟩ := inv1 hv
    rfl
  · intro Ar L room hfr hL
    show Cx.W ⟨prog1, w, h₀, Ar, callEnvC (fd_prep w).1 L 109, _⟩ (execs (bd_prep w).1 (cx_prep w h₀ Ar L).env) _ _ _
    obtain ⟨A, rfl, hs, hF⟩ := hs
    have X : (K1 w).In h₀ := b.X
    have hcyc : GV h₀ "CycleError" (.ref 72) := b.glob (by rfl)
    obtain ⟨D, hD⟩ := cls_cycle b
    refine s_cons ?_
    repeat walk_at "w"
    refine a_own X hs.inst (v := .none) (by unfold Ad.attrs; rw [hr]; rfl) ?_ (by rfl) (by rfl) (by rfl) (by rfl) (by rfl)
    repeat walk_at "w"
    refine if_f (by rfl) ?_
    repeat walk_at "w"
    refine v_comp (cl := []) (by rfl) ?_
    repeat walk_at "w"
    refine a_own X hs.inst (v := .ref A.d) (by rfl) ?_ (by rfl) (by rfl) (by rfl) (by rfl) (by rfl)
    refine m_dict hs.dict ?_ PySem.F.slot_dict_values
    repeat walk_at "w"
    refine c_values b.past hs.dict fun V hV => ?_
    have hh : Ar.handled = none := room.2.2 (by decide)
    refine ⟨_, _, fun i acc σ' => acc = ((g.names.take i).filter (fun v => g.np v == 0)).map sv ∧ ∀ a y, (σ.upd V (.raw (viewObj A.d))) a = some y → σ' a = some y, iters_values hh, by rw [List.length_map, List.length_map, sizeLine_eq]; omega, ⟨rfl, fun _ _ e => e⟩, fun i acc σ' q => ⟨q.2 _ _ (Sto.upd_same _ _ _), q.2 _ _ (upd_fresh hs.dict hV)⟩, ?_, ?_⟩
    · rintro Cl i v acc σ₂ mc hv ⟨rfl, k2⟩ hl
      rw [List.getElem?_map, List.getElem?_map, Option.map_map, Option.map_eq_some_iff] at hv
      obtain ⟨n, hn, rfl⟩ := hv
      have hnm : n ∈ g.names := List.mem_of_getElem? hn
      have htk : g.names.take (i + 1) = g.names.take i ++ [n] := by rw [List.take_add_one, hn]; rfl
      have nd : SlotS σ₂ (A.ax n) (A.ad n) 57 [some (sv n), some (nv (g.np n)), some (.ref (A.al n))] := ⟨k2 _ _ (upd_fresh (hs.node n hnm).1 hV), k2 _ _ (upd_fresh (hs.node n hnm).2 hV)⟩
      refine ifs_one ?_
      repeat walk_at "w"
      show geta _ (.ref (A.ax n)) _ _ _ _
      refine a_slot (k := 1) X nd (by rfl) ?_ (by rfl) (by rfl) (by rfl) (by rfl) (by rfl) (by rfl) (by rfl)
      repeat walk_at "w"
      refine if_b (fun hb => ?_) (fun hb => ?_)
      · repeat walk_at "w"
        show geta _ (.ref (A.ax n)) _ _ _ _
        refine a_slot (k := 0) X nd (by rfl) ?_ (by rfl) (by rfl) (by rfl) (by rfl) (by rfl) (by rfl) (by rfl)
        refine ⟨?_, k2⟩
        rw [htk, List.filter_append, List.map_append]
        have : (g.np n == 0) = true := by simpa using hb
        simp [this]
      · refine ⟨?_, k2⟩
        rw [htk, List.filter_append, List.map_append]
        have : (g.np n == 0) = false := by simpa using hb
        simp [this]
    · rintro acc σ₃ ⟨rfl, k2⟩ R hR
      rw [List.length_map, List.length_map, List.take_length]
      have k3 : ∀ a y, σ a = some y → σ₃ a = some y := fun a y e => k2 a y (upd_fresh e hV)
      have hs3 := (hs.sup k3).fresh hR (.list ((g.names.filter fun v => g.np v == 0).map sv))
      repeat walk_at "w"
      refine a_set X hs3.inst (by simp [Ad.attrs]) ?_ (by rfl) (by rfl) (by rfl) (by rfl)
      have hRn : σ R = none := sup_none k3 hR
      have hal : ∀ v ∈ g.names, A.al v ≠ R := fun v hv => ne_of_none (hs.succ v hv) hRn
      have x4 : Ext A g σ (A.rdy R) g.prep _ := Ext.setRdy hs hr hRn (sup_upd k3 hRn) (Sto.upd_same _ _ _)
      repeat walk_at "w"
      have ha : putKV (Str.ofString "_ready_nodes") (.ref R) (A.attrs g) = (A.rdy R).attrs g.prep := by unfold Ad.attrs; rw [hr]; rfl
      rw [ha]
      refine a_meth X x4.at_.inst (by rfl) ?_ (by rfl) (by rfl) (by rfl)
      repeat walk_at "w"
      refine call_fn (k := 2) (Room.le room (by decide)) (Fn.mono (fn_fcycle b ⟨A.rdy R, rfl, x4.at_, fun _ f => f⟩ hc hz hsz) fun r σ5 q => ?_)
      obtain ⟨k5, q⟩ := q
      have x5 := x4.sup k5
      rcases q with ⟨rfl, acy⟩ | ⟨D', c, n, rfl, hDn, hDl, ring⟩
      · repeat walk_at "w"
        exact ⟨_, rfl, acy, ⟨A.rdy R, rfl, x5.at_, fun _ f => f⟩, x5.left hF⟩
      · repeat walk_at "w"
        have hlen : (n :: c).length ≤ g.names.length := by
          obtain ⟨n', r, e, hn, hm, _⟩ := ring
          exact nodup_le hn hm
        refine test_list hDl (by rw [List.length_map, List.length_append, List.length_singleton, sizeLine_eq]; omega) ?_
        refine if_t (by simp) ?_
        refine s_cons ?_
        refine s_raise hh ?_
        repeat walk_at "w"
        refine c_exc hD (by simp [app, sizeLine_eq]) fun e t he ht hte => ?_
        refine ⟨_, D, e, t, hD, rfl, Sto.upd_same _ _ _, ?_⟩
        refine ⟨e, false, _, _, _, rfl, excIn_made (Sto.upd_same _ _ _), fun σ6 x6 k6 => ?_⟩
        have x7 := x5.sup (σ'' := σ6) fun a y ea => by
          have n1 : a ≠ t := ne_of_none ea ht
          have n2 : a ≠ e := ne_of_none ea he
          have e1 : ((σ5.upd t (.tup (app [] [sv (Str.ofString "nodes are in a cycle"), .ref D']))).upd e (.raw (excObj 72 t .none))) a = some y := by rw [Sto.upd_ne n2, Sto.upd_ne n1]; exact ea
          rw [k6 a n2 (by rw [e1]; exact fun c => nomatch c)]
          exact e1
        have he5 : σ5 e = none := he
        have he0 : σ e = none := by
          cases q : σ e with
          | none => rfl
          | some y =>
            by_cases f : A.foot g e
            · refine absurd he5 (x5.at_.dom ?_)
              rcases f with f | f | f | f | ⟨f, _⟩
              · exact .inl f
              · exact .inr (.inl f)
              · exact .inr (.inr (.inl f))
              · exact .inr (.inr (.inr (.inl f)))
              · exact absurd hr f
            · rw [x5.off _ _ q f] at he5; cases he5
        exact ⟨_, e, _, n :: c, rfl, x6, ring, ⟨A.rdy R, rfl, x7.at_, fun _ f => f⟩, x7.left hF, he0⟩
end
section
abbrev Edges := List (Str × Str)
structure EncO (g : Gr) (T : Edges) (v : Str) (k : Nat) : Prop where
  su : ∀ u ∈ g.names, g.su u = (T.filter fun e => decide (e.1 = u)).map (·.2)
  np : ∀ u ∈ g.names, g.np u = ((T.countP (fun e => decide (e.2 = u)) + (if u = v then k else 0) : Nat) : Int)
  mem : ∀ e ∈ T, e.1 ∈ g.names ∧ e.2 ∈ g.names
  rd : g.rd = none
def Enc (g : Gr) (T : Edges) : Prop := ∀ v, EncO g T v 0
theorem Enc.empty : Enc Gr.empty [] := fun v => ⟨fun u h => (nomatch h), fun u h => (nomatch h), fun e h => (nomatch h), rfl⟩
theorem Gr.need_names (g : Gr) (v u : Str) : u ∈ (g.need v).names ↔ u ∈ g.names ∨ u = v := by
  unfold Gr.need
  split
  · rename_i h
    constructor
    · exact .inl
    · rintro (h2 | rfl)
      · exact h2
      · exact h
  · simp
theorem EncO.need {g : Gr} {T : Edges} {v : Str} {k : Nat} (h : EncO g T v k) (p : Str) (hp : p = v → p ∈ g.names ∨ k = 0) : EncO (g.need p) T v k := by
  by_cases q : p ∈ g.names
  · have : g.need p = g := by unfold Gr.need; rw [if_pos q]
    rw [this]; exact h
  · have e : g.need p = { g with names := g.names ++ [p], np := fun u => if u = p then 0 else g.np u, su := fun u => if u = p then [] else g.su u } := by unfold Gr.need; rw [if_neg q]
    rw [e]
    refine ⟨fun u hu => ?_, fun u hu => ?_, fun e he => ?_, h.rd⟩
    · by_cases w : u = p
      · subst w
        show (if u = u then [] else g.su u) = _
        rw [if_pos rfl]
        have : T.filter (fun e => decide (e.1 = u)) = [] := List.filter_eq_nil_iff.mpr fun e he => by
          have := (h.mem e he).1
          simp only [decide_eq_true_eq]
          rintro rfl
          exact q this
        rw [this]; rfl
      · have hu' : u ∈ g.names := by
          rcases List.mem_append.mp hu with h | h
          · exact h
          · exact absurd (List.mem_singleton.mp h) w
        show (if u = p then [] else g.su u) = _
        rw [if_neg w]
        exact h.su u hu'
    · by_cases w : u = p
      · subst w
        show (if u = u then 0 else g.np u) = _
        rw [if_pos rfl]
        have : T.countP (fun e => decide (e.2 = u)) = 0 := List.countP_eq_zero.mpr fun e he => by
          have := (h.mem e he).2
          simp only [decide_eq_true_eq]
          rintro rfl
          exact q this
        rw [this]
        by_cases z : u = v
        · rcases hp z with h1 | h1
          · exact absurd h1 q
          · rw [h1]; simp
        · simp [z]
      · have hu' : u ∈ g.names := by
          rcases List.mem_append.mp hu with h | h
          · exact h
          · exact absurd (List.mem_singleton.mp h) w
        show (if u = p then 0 else g.np u) = _
        rw [if_neg w]
        exact h.np u hu'
    · exact ⟨List.mem_append_left _ (h.mem e he).1, List.mem_append_left _ (h.mem e he).2⟩
theorem EncO.addp {g : Gr} {T : Edges} {v : Str} {k : Nat} (h : EncO g T v (k + 1)) (hv : v ∈ g.names) (p : Str) : EncO (Gr.addp v g p) (T ++ [(p, v)]) v k ∧ v ∈ (Gr.addp v g p).names := by
  have h2 := h.need p (fun q => .inl (by rw [q]; exact hv))
  have hv2 : v ∈ (g.need p).names := Gr.need_sub hv
  have hp2 : p ∈ (g.need p).names := Gr.need_mem g p
  refine ⟨⟨fun u hu => ?_, fun u hu => ?_, fun e he => ?_, h2.rd⟩, hv2⟩
  · show (if u = p then (g.need p).su p ++ [v] else (g.need p).su u) = _
    rw [List.filter_append, List.map_append]
    by_cases w : u = p
    · subst w
      rw [if_pos rfl, h2.su u hu]
      simp
    · rw [if_neg w, h2.su u hu]
      have : (decide (p = u)) = false := by simpa using fun q => w (Eq.symm q)
      simp [this]
  · show (g.need p).np u = _
    rw [h2.np u hu, List.countP_append]
    by_cases w : u = v
    · subst w
      simp; omega
    · have : (decide (v = u)) = false := by simpa using fun q => w (Eq.symm q)
      simp [w, this]
  · rcases List.mem_append.mp he with he | he
    · exact h2.mem e he
    · obtain rfl := List.mem_singleton.mp he
      exact ⟨hp2, hv2⟩
theorem EncO.addps {v : Str} : ∀ (ps : List Str) {g : Gr} {T : Edges}, EncO g T v ps.length → v ∈ g.names → EncO (ps.foldl (Gr.addp v) g) (T ++ ps.map fun p => (p, v)) v 0
  | [], g, T, h, _ => by simpa using h
  | p :: r, g, T, h, hv => by
    obtain ⟨h1, h2⟩ := h.addp hv p
    have := EncO.addps r h1 h2
    simpa [List.append_assoc] using this
theorem EncO.any {g : Gr} {T : Edges} {v : Str} (h : EncO g T v 0) : Enc g T := fun u => ⟨h.su, fun x hx => by have := h.np x hx; simpa using this, h.mem, h.rd⟩
theorem Enc.add {g : Gr} {T : Edges} (h : Enc g T) (v : Str) (ps : List Str) : Enc (g.add v ps) (T ++ ps.map fun p => (p, v)) := by
  have h1 := (h v).need v (fun _ => .inr rfl)
  have hv := Gr.need_mem g v
  refine (EncO.addps (v := v) ps (g := (g.need v).setNp v ((g.need v).np v + ps.length)) (T := T) ⟨h1.su, fun u hu => ?_, h1.mem, h1.rd⟩ hv).any
  show (if u = v then (g.need v).np v + ps.length else (g.need v).np u) = _
  have := h1.np u hu
  by_cases w : u = v
  · subst w
    simp only [if_true] at this ⊢
    rw [this]; simp
  · simp only [w, if_false] at this ⊢
    exact this
theorem addps_names (v u : Str) : ∀ (ps : List Str) (g : Gr), u ∈ (ps.foldl (Gr.addp v) g).names ↔ u ∈ g.names ∨ u ∈ ps
  | [], g => by simp
  | p :: r, g => by
    rw [List.foldl_cons, addps_names v u r]
    show u ∈ (g.need p).names ∨ u ∈ r ↔ _
    rw [Gr.need_names, List.mem_cons]
    exact or_assoc
theorem add_names (g : Gr) (v u : Str) (ps : List Str) : u ∈ (g.add v ps).names ↔ u ∈ g.names ∨ u = v ∨ u ∈ ps := by
  unfold Gr.add
  rw [addps_names]
  show u ∈ (g.need v).names ∨ u ∈ ps ↔ _
  rw [Gr.need_names]
  exact or_assoc
theorem Enc.rdn {g : Gr} {T : Edges} (h : Enc g T) : g.rd = none := (h "").rd
def cntT (T : Edges) (row : List Str) (v : Str) : Nat := T.countP fun e => decide (e.2 = v) && !decide (e.1 ∈ row)
theorem cnt_split (T : Edges) (D : List Str) (x v : Str) (hx : x ∉ D) : cntT T D v = cntT T (D ++ [x]) v + ((T.filter fun e => decide (e.1 = x)).map (·.2)).count v := by
  unfold cntT
  induction T with
  | nil => rfl
  | cons e r ih =>
    obtain ⟨a, c⟩ := e
    rw [List.countP_cons, List.countP_cons, ih, List.filter_cons]
    by_cases w : a = x
    · subst w
      by_cases z : c = v
      · subst z
        simp [hx]; omega
      · simp [z]
        try (rw [List.count_cons]; simp [z])
    · by_cases z : c = v
      · subst z
        by_cases y : a ∈ D <;> simp [w, y]
        try omega
      · simp [w, z]
theorem cnt_zero {T : Edges} {D : List Str} {v : Str} : cntT T D v = 0 ↔ ∀ e ∈ T, e.2 = v → e.1 ∈ D := by
  unfold cntT
  rw [List.countP_eq_zero]
  constructor
  · intro h e he hv
    have := h e he
    simpa [hv] using this
  · intro h e he
    by_cases hv : e.2 = v
    · simp [hv, h e he hv]
    · simp [hv]
theorem dec_np (g : Gr) (s u : Str) : (g.dec s).np u = if u = s then g.np s - 1 else g.np u := by
  unfold Gr.dec
  split <;> rfl
theorem decs {l : List Str} : ∀ {g : Gr} {R : List Str}, g.rd = some R → (∀ s ∈ l, ((l.count s : Nat) : Int) ≤ g.np s) →
    (∀ u, (l.foldl Gr.dec g).np u = g.np u - ((l.count u : Nat) : Int)) ∧ ∃ E, (l.foldl Gr.dec g).rd = some (R ++ E) ∧ E.Nodup ∧ ∀ s, s ∈ E ↔ s ∈ l ∧ g.np s = ((l.count s : Nat) : Int) := by
  induction l with
  | nil => intro g R h _; exact ⟨fun u => by simp, [], by simpa using h, List.nodup_nil, fun s => by simp⟩
  | cons s r ih =>
    intro g R h k
    have ks := k s (.head _)
    rw [List.count_cons_self] at ks
    have knp : ∀ t ∈ r, ((r.count t : Nat) : Int) ≤ (g.dec s).np t := fun t ht => by
      rw [dec_np]
      have := k t (.tail _ ht)
      rw [List.count_cons] at this
      split
      · rename_i q; subst q; omega
      · rename_i q
        have q2 : ¬ (s == t) = true := by simpa using fun z => q (Eq.symm z)
        rw [if_neg q2] at this
        omega
    by_cases z : g.np s - 1 = 0
    · have hr : (g.dec s).rd = some (R ++ [s]) := by
        unfold Gr.dec
        rw [if_pos z]
        show g.rd.map _ = _
        rw [h]; rfl
      obtain ⟨h1, E, h2, h3, h4⟩ := ih hr knp
      have hc : r.count s = 0 := by omega
      have hsr : s ∉ r := List.count_eq_zero.mp hc
      refine ⟨fun u => ?_, s :: E, ?_, ?_, fun t => ?_⟩
      · rw [List.foldl_cons, h1, dec_np, List.count_cons]
        by_cases q : u = s
        · subst q; simp; omega
        · have : ¬ (s == u) = true := by simpa using fun z => q (Eq.symm z)
          simp [q, this]
      · rw [List.foldl_cons, h2]; simp
      · rw [List.nodup_cons]
        exact ⟨fun q => hsr ((h4 s).mp q).1, h3⟩
      · rw [List.mem_cons, h4, List.mem_cons, dec_np, List.count_cons]
        by_cases q : t = s
        · subst q
          simp [hc]; omega
        · have : ¬ (s == t) = true := by simpa using fun z => q (Eq.symm z)
          simp [q, this]
    · have hr : (g.dec s).rd = some R := by
        unfold Gr.dec
        rw [if_neg z]
        exact h
      obtain ⟨h1, E, h2, h3, h4⟩ := ih hr knp
      refine ⟨fun u => ?_, E, by rw [List.foldl_cons, h2], h3, fun t => ?_⟩
      · rw [List.foldl_cons, h1, dec_np, List.count_cons]
        by_cases q : u = s
        · subst q; simp; omega
        · have : ¬ (s == u) = true := by simpa using fun z => q (Eq.symm z)
          simp [q, this]
      · rw [h4, List.mem_cons, dec_np, List.count_cons]
        by_cases q : t = s
        · subst q
          simp
          constructor
          · rintro ⟨_, h⟩; omega
          · intro h
            have : 0 < r.count t := by omega
            exact ⟨List.count_pos_iff.mp this, by omega⟩
        · have : ¬ (s == t) = true := by simpa using fun z => q (Eq.symm z)
          simp [q, this]
structure Kn (g : Gr) (T : Edges) (names : List Str) (su : Str → List Str) (row rs : List Str) : Prop where
  hn : g.names = names
  hs : g.su = su
  rd : g.rd = some rs
  rnod : rs.Nodup
  rmem : ∀ v, v ∈ rs ↔ v ∈ names ∧ v ∉ row ∧ ∀ e ∈ T, e.2 = v → e.1 ∈ row
  np : ∀ v ∈ names, v ∉ row → g.np v = ((cntT T row v : Nat) : Int)
  bef : ∀ e ∈ T, e.2 ∈ row → ∃ l r, row = l ++ r ∧ e.1 ∈ l ∧ e.2 ∈ r
  sub : ∀ v ∈ row, v ∈ names
  nod : row.Nodup
theorem Kn.clo {g : Gr} {T : Edges} {names : List Str} {su : Str → List Str} {row rs : List Str} (h : Kn g T names su row rs) : ∀ e ∈ T, e.2 ∈ row → e.1 ∈ row := fun e he h2 => by
  obtain ⟨l, r, e1, h1, _⟩ := h.bef e he h2
  rw [e1]; exact List.mem_append_left _ h1
structure Mid (g : Gr) (T : Edges) (names : List Str) (su : Str → List Str) (row rs D : List Str) : Prop where
  hn : g.names = names
  hs : g.su = su
  rd : ∃ R, g.rd = some R ∧ R.Nodup ∧ ∀ v, v ∈ R ↔ v ∈ names ∧ v ∉ row ∧ v ∉ rs ∧ ∀ e ∈ T, e.2 = v → e.1 ∈ row ++ D
  np : ∀ v ∈ names, v ∉ row → v ∉ rs → g.np v = ((cntT T (row ++ D) v : Nat) : Int)
  pend : ∀ v ∈ rs, v ∉ D → g.np v = -1
section
variable {T : Edges} {names : List Str} {su : Str → List Str} {row rs : List Str}
theorem Kn.mid {g : Gr} (h : Kn g T names su row rs) : Mid (g.out rs) T names su row rs [] := by
  have n1 := npAll_names (-1) rs g
  refine ⟨n1.1.trans h.hn, n1.2.1.trans h.hs, ⟨[], rfl, List.nodup_nil, fun v => ?_⟩, fun v hv h1 h2 => ?_, fun v hv _ => ?_⟩
  · constructor
    · intro q; cases q
    · rintro ⟨a, b, c, d⟩
      rw [List.append_nil] at d
      exact absurd ((h.rmem v).mpr ⟨a, b, d⟩) c
  · show (g.npAll (-1) rs).np v = _
    rw [npAll_np, if_neg h2, List.append_nil]
    exact h.np v hv h1
  · show (g.npAll (-1) rs).np v = _
    rw [npAll_np, if_pos hv]
theorem Mid.next {g g0 : Gr} {D : List Str} {x : Str} (h0 : Kn g0 T names su row rs) (hsu : ∀ u ∈ names, su u = (T.filter fun e => decide (e.1 = u)).map (·.2)) (hmem : ∀ e ∈ T, e.1 ∈ names ∧ e.2 ∈ names)
    (h : Mid g T names su row rs D) (hx : x ∈ rs) (hxD : x ∉ D) : Mid (g.done1 x) T names su row rs (D ++ [x]) := by
  obtain ⟨hxn, hxr, hxp⟩ := (h0.rmem x).mp hx
  have hxRD : x ∉ row ++ D := fun q => by
    rcases List.mem_append.mp q with q | q
    · exact hxr q
    · exact hxD q
  have hl : g.su x = (T.filter fun e => decide (e.1 = x)).map (·.2) := by rw [h.hs]; exact hsu x hxn
  have inl : ∀ s, s ∈ g.su x ↔ (x, s) ∈ T := fun s => by
    rw [hl, List.mem_map]
    constructor
    · rintro ⟨⟨a, c⟩, he, rfl⟩
      obtain ⟨h1, h2⟩ := List.mem_filter.mp he
      have : a = x := of_decide_eq_true h2
      subst this
      exact h1
    · intro he
      exact ⟨(x, s), List.mem_filter.mpr ⟨he, by simp⟩, rfl⟩
  have offs : ∀ s, (x, s) ∈ T → s ∈ names ∧ s ∉ row ∧ s ∉ rs ∧ s ≠ x := fun s hs => by
    have a1 : s ∉ row := fun q => hxr (h0.clo _ hs q)
    have a2 : s ∉ rs := fun q => hxr (((h0.rmem s).mp q).2.2 _ hs rfl)
    exact ⟨(hmem _ hs).2, a1, a2, fun q => a2 (by rw [q]; exact hx)⟩
  obtain ⟨R, r1, r2, r3⟩ := h.rd
  have hnp : ∀ s, (g.setNp x (-2)).np s = if s = x then -2 else g.np s := fun s => rfl
  have key : ∀ v, v ∈ names → v ∉ row → v ∉ rs → g.np v = ((cntT T (row ++ (D ++ [x])) v : Nat) : Int) + (((g.su x).count v : Nat) : Int) := fun v a b c => by
    rw [h.np v a b c, cnt_split T (row ++ D) x v hxRD, hl, List.append_assoc]; simp
  obtain ⟨d1, E, d2, d3, d4⟩ := decs (l := g.su x) (g := g.setNp x (-2)) (R := R) r1 (fun s hs => by
    obtain ⟨a, b, c, d⟩ := offs s ((inl s).mp hs)
    rw [hnp, if_neg d, key s a b c]
    omega)
  have same := decs_same (g.su x) (g.setNp x (-2))
  refine ⟨same.1.trans h.hn, same.2.1.trans h.hs, ⟨R ++ E, d2, ?_, fun v => ?_⟩, fun v a b c => ?_, fun v hv hvD => ?_⟩
  · rw [List.nodup_append]
    refine ⟨r2, d3, fun a ha c hc => ?_⟩
    rintro rfl
    have h1 := ((r3 a).mp ha).2.2.2 _ ((inl a).mp ((d4 a).mp hc).1) rfl
    exact hxRD h1
  · rw [List.mem_append, r3, d4, hnp]
    have assoc : row ++ (D ++ [x]) = (row ++ D) ++ [x] := (List.append_assoc _ _ _).symm
    constructor
    · rintro (⟨a, b, c, d⟩ | ⟨a, d⟩)
      · exact ⟨a, b, c, fun e he q => by rw [assoc]; exact List.mem_append_left _ (d e he q)⟩
      · obtain ⟨p, q, r, s⟩ := offs v ((inl v).mp a)
        rw [if_neg s, key v p q r] at d
        have z : cntT T (row ++ (D ++ [x])) v = 0 := by omega
        exact ⟨p, q, r, cnt_zero.mp z⟩
    · rintro ⟨a, b, c, d⟩
      by_cases all : ∀ e ∈ T, e.2 = v → e.1 ∈ row ++ D
      · exact .inl ⟨a, b, c, all⟩
      · right
        have hxv : (x, v) ∈ T := by
          apply Classical.byContradiction
          intro no
          refine all fun e he q => ?_
          have := d e he q
          rw [assoc] at this
          rcases List.mem_append.mp this with h1 | h1
          · exact h1
          · obtain ⟨e1, e2⟩ := e
            have h1 : e1 = x := List.mem_singleton.mp h1
            have q : e2 = v := q
            subst h1; subst q
            exact absurd he no
        obtain ⟨p, q, r, s⟩ := offs v hxv
        refine ⟨(inl v).mpr hxv, ?_⟩
        rw [if_neg s, key v p q r, cnt_zero.mpr d]
        simp
  · show ((g.su x).foldl Gr.dec (g.setNp x (-2))).np v = _
    have s : v ≠ x := fun q => c (by rw [q]; exact hx)
    rw [d1, hnp, if_neg s, key v a b c]
    omega
  · show ((g.su x).foldl Gr.dec (g.setNp x (-2))).np v = _
    have s : v ≠ x := fun q => hvD (by rw [q]; simp)
    have hc : (g.su x).count v = 0 := List.count_eq_zero.mpr fun q => (offs v ((inl v).mp q)).2.2.1 hv
    rw [d1, hnp, if_neg s, hc, h.pend v hv (fun q => hvD (List.mem_append_left _ q))]
    simp
theorem take_nodup {l : List Str} (h : l.Nodup) {i : Nat} {v : Str} (hv : l[i]? = some v) : v ∉ l.take i := fun q => by
  obtain ⟨j, hj, e⟩ := List.getElem_of_mem q
  rw [List.length_take] at hj
  rw [List.getElem_take] at e
  obtain ⟨hi, e2⟩ := List.getElem?_eq_some_iff.mp hv
  have := (List.getElem_inj h).mp (e.trans e2.symm)
  omega
theorem Kn.mids {g : Gr} (h : Kn g T names su row rs) (hsu : ∀ u ∈ names, su u = (T.filter fun e => decide (e.1 = u)).map (·.2)) (hmem : ∀ e ∈ T, e.1 ∈ names ∧ e.2 ∈ names) : ∀ i, Mid ((rs.take i).foldl Gr.done1 (g.out rs)) T names su row rs (rs.take i)
  | 0 => h.mid
  | i + 1 => by
    cases q : rs[i]? with
    | none =>
      have hl := List.getElem?_eq_none_iff.mp q
      have e1 : rs.take (i + 1) = rs := List.take_of_length_le (by omega)
      have e2 : rs.take i = rs := List.take_of_length_le hl
      have := h.mids hsu hmem i
      rw [e2] at this
      rw [e1]; exact this
    | some x =>
      have e1 : rs.take (i + 1) = rs.take i ++ [x] := by rw [List.take_add_one, q]; rfl
      rw [e1, List.foldl_append]
      exact Mid.next h hsu hmem (h.mids hsu hmem i) (List.mem_of_getElem? q) (take_nodup h.rnod q)
theorem Kn.round {g : Gr} (h : Kn g T names su row rs) (hsu : ∀ u ∈ names, su u = (T.filter fun e => decide (e.1 = u)).map (·.2)) (hmem : ∀ e ∈ T, e.1 ∈ names ∧ e.2 ∈ names) :
    (∀ i v, rs[i]? = some v → v ∈ (g.out rs).names ∧ ((rs.take i).foldl Gr.done1 (g.out rs)).np v = -1) ∧ ∃ rs', Kn ((g.out rs).doneAll rs) T names su (row ++ rs) rs' := by
  refine ⟨fun i v hv => ⟨?_, ?_⟩, ?_⟩
  · rw [(h.mid).hn]
    exact ((h.rmem v).mp (List.mem_of_getElem? hv)).1
  · exact (h.mids hsu hmem i).pend v (List.mem_of_getElem? hv) (take_nodup h.rnod hv)
  · have m := h.mids hsu hmem rs.length
    rw [List.take_length] at m
    obtain ⟨R, r1, r2, r3⟩ := m.rd
    refine ⟨R, m.hn, m.hs, r1, r2, fun v => ?_, fun v hv h1 => ?_, fun e he h2 => ?_, fun v hv => ?_, ?_⟩
    · rw [r3, List.mem_append, not_or]
      constructor
      · rintro ⟨a, b, c, d⟩; exact ⟨a, ⟨b, c⟩, d⟩
      · rintro ⟨a, ⟨b, c⟩, d⟩; exact ⟨a, b, c, d⟩
    · rw [List.mem_append, not_or] at h1
      exact m.np v hv h1.1 h1.2
    · rcases List.mem_append.mp h2 with h2 | h2
      · obtain ⟨l, r, e1, a, b⟩ := h.bef e he h2
        exact ⟨l, r ++ rs, by rw [e1, List.append_assoc], a, List.mem_append_left _ b⟩
      · exact ⟨row, rs, rfl, ((h.rmem _).mp h2).2.2 e he rfl, h2⟩
    · rcases List.mem_append.mp hv with h2 | h2
      · exact h.sub v h2
      · exact ((h.rmem v).mp h2).1
    · rw [List.nodup_append]
      refine ⟨h.nod, h.rnod, fun a ha c hc => ?_⟩
      rintro rfl
      exact ((h.rmem a).mp hc).2.1 ha
theorem Kn.progress {g : Gr} (h : Kn g T names su row rs) (hsu : ∀ u ∈ names, su u = (T.filter fun e => decide (e.1 = u)).map (·.2)) (hmem : ∀ e ∈ T, e.1 ∈ names ∧ e.2 ∈ names) (ha : Acy names su) {v : Str} (hv : v ∈ names) (hr : v ∉ row) : rs ≠ [] := by
  obtain ⟨rank, hrk⟩ := ha
  have edge : ∀ e ∈ T, rank e.2 < rank e.1 := fun e he => hrk e.1 (hmem e he).1 e.2 (by
    rw [hsu _ (hmem e he).1]
    exact List.mem_map.mpr ⟨e, List.mem_filter.mpr ⟨he, by simp⟩, rfl⟩)
  have climb : ∀ (b : Nat) (u : Str), u ∈ names → u ∉ row → (∀ x ∈ names, rank x < rank u + b) → rs ≠ [] := by
    intro b
    induction b with
    | zero =>
      intro u hu _ hb
      have := hb u hu
      omega
    | succ b ih =>
      intro u hu hur hb
      by_cases all : ∀ e ∈ T, e.2 = u → e.1 ∈ row
      · exact List.ne_nil_of_mem ((h.rmem u).mpr ⟨hu, hur, all⟩)
      · obtain ⟨e, he, h1, h2⟩ : ∃ e, e ∈ T ∧ e.2 = u ∧ e.1 ∉ row := by
          apply Classical.byContradiction
          intro no
          exact all fun e he q => Classical.byContradiction fun z => no ⟨e, he, q, z⟩
        have lt := edge e he
        rw [h1] at lt
        exact ih e.1 (hmem e he).1 h2 fun x hx => by
          have := hb x hx
          omega
  obtain ⟨B, hB⟩ : ∃ B, ∀ x ∈ names, rank x < B := by
    clear hv h hsu hmem edge climb hrk
    induction names with
    | nil => exact ⟨0, fun x hx => nomatch hx⟩
    | cons a l ih =>
      obtain ⟨B, hB⟩ := ih
      refine ⟨B + rank a + 1, fun x hx => ?_⟩
      rcases List.mem_cons.mp hx with rfl | hx
      · omega
      · have := hB x hx; omega
  exact climb B v hv hr fun x hx => by
    have := hB x hx
    omega
end
theorem len_sub {α : Type} [BEq α] [LawfulBEq α] : ∀ {l m : List α}, l.Nodup → (∀ x ∈ l, x ∈ m) → l.length ≤ m.length
  | [], m, _, _ => Nat.zero_le _
  | a :: l, m, h, k => by
    rw [List.nodup_cons] at h
    have ha := k a (.head _)
    have := len_sub (l := l) (m := m.erase a) h.2 fun x hx => (List.mem_erase_of_ne (fun q => h.1 (by rw [← q]; exact hx))).mpr (k x (.tail _ hx))
    rw [List.length_erase_of_mem ha] at this
    have := List.length_pos_of_mem ha
    rw [List.length_cons]
    omega
theorem full_of {row names : List Str} (h : row.Nodup) (k : ∀ v ∈ row, v ∈ names) (hl : names.length ≤ row.length) : ∀ v ∈ names, v ∈ row := fun v hv => by
  apply Classical.byContradiction
  intro no
  have := len_sub (l := v :: row) (m := names) (List.nodup_cons.mpr ⟨no, h⟩) fun x hx => by
    rcases List.mem_cons.mp hx with rfl | hx
    · exact hv
    · exact k x hx
  rw [List.length_cons] at this
  omega
theorem Kn.first {g : Gr} {T : Edges} (h : Enc g T) (hn : g.names.Nodup) : ∃ rs, Kn g.prep T g.names g.su [] rs := by
  refine ⟨_, rfl, rfl, rfl, hn.filter _, fun v => ?_, fun v hv _ => ?_, fun e _ q => (nomatch q), fun v q => (nomatch q), List.nodup_nil⟩
  · rw [List.mem_filter]
    constructor
    · rintro ⟨a, c⟩
      refine ⟨a, fun q => (nomatch q), fun e he q => ?_⟩
      have c : g.np v = 0 := by simpa using c
      rw [(h "").np v a] at c
      have z : T.countP (fun e => decide (e.2 = v)) = 0 := by
        have : (if v = ("" : Str) then 0 else 0) = 0 := by split <;> rfl
        rw [this] at c
        omega
      have := List.countP_eq_zero.mp z e he
      simp [q] at this
    · rintro ⟨a, _, c⟩
      refine ⟨a, ?_⟩
      have z : T.countP (fun e => decide (e.2 = v)) = 0 := List.countP_eq_zero.mpr fun e he q => nomatch c e he (of_decide_eq_true q)
      have := (h "").np v a
      rw [z] at this
      rw [this]
      split <;> rfl
  · show g.np v = _
    rw [(h "").np v hv]
    have : (if v = ("" : Str) then 0 else 0) = 0 := by split <;> rfl
    rw [this]
    unfold cntT
    simp
end
section
theorem pre_map {α β : Type} {f : α → β} {t : List α} : ∀ {xs : List β}, (∀ x ∈ xs, ∃ p ∈ t, x = f p) → ∃ P : List α, xs = P.map f ∧ ∀ p ∈ P, p ∈ t
  | [], _ => ⟨[], rfl, fun p h => nomatch h⟩
  | x :: r, h => by
    obtain ⟨p, hp, rfl⟩ := h x (.head _)
    obtain ⟨P, e, k⟩ := pre_map (xs := r) fun y hy => h y (.tail _ hy)
    refine ⟨p :: P, by rw [e]; rfl, fun q hq => ?_⟩
    rcases List.mem_cons.mp hq with rfl | hq
    · exact hp
    · exact k q hq
theorem mem_stp {lo hi k : Option Int} {vs : List Value} {v : Value} (h : v ∈ stp lo hi k vs) : v ∈ vs := by
  unfold stp slicePick at h
  rw [List.mem_filterMap] at h
  obtain ⟨i, _, e⟩ := h
  rw [List.getElem?_toArray] at e
  exact List.mem_of_getElem? e
theorem stp_even {vs : List Value} {i : Nat} {v : Value} (h : vs[2 * i]? = some v) : v ∈ stp none none (some 2) vs := by
  unfold stp slicePick
  rw [List.mem_filterMap]
  refine ⟨2 * i, ?_, by rw [List.getElem?_toArray]; exact h⟩
  have hl := (List.getElem?_eq_some_iff.mp h).1
  unfold sliceBounds sliceRange
  simp only [Option.getD_some, List.size_toArray, List.mem_map, List.mem_range]
  refine ⟨i, ?_, ?_⟩
  · simp; omega
  · simp; omega
theorem stp_odd {vs : List Value} {i : Nat} {v : Value} (h : vs[2 * i + 1]? = some v) : v ∈ stp (some 1) none (some 2) vs := by
  unfold stp slicePick
  rw [List.mem_filterMap]
  refine ⟨2 * i + 1, ?_, by rw [List.getElem?_toArray]; exact h⟩
  have hl := (List.getElem?_eq_some_iff.mp h).1
  unfold sliceBounds sliceRange
  simp only [Option.getD_some, List.size_toArray, List.mem_map, List.mem_range]
  refine ⟨i, ?_, ?_⟩
  · simp; omega
  · simp; omega
theorem stp_both {vs : List Value} {v : Value} (h : v ∈ vs) : v ∈ stp none none (some 2) vs ∨ v ∈ stp (some 1) none (some 2) vs := by
  obtain ⟨j, hj⟩ := List.getElem?_of_mem h
  rcases Nat.mod_two_eq_zero_or_one j with q | q
  · exact .inl (stp_even (i := j / 2) (by rw [show 2 * (j / 2) = j by omega]; exact hj))
  · exact .inr (stp_odd (i := j / 2) (by rw [show 2 * (j / 2) + 1 = j by omega]; exact hj))
theorem stp_len (lo hi k : Option Int) (vs : List Value) (hk : k = some 2) (hlo : lo = none ∨ lo = some 1) (hhi : hi = none) : (stp lo hi k vs).length ≤ vs.length := by
  subst hk; subst hhi
  unfold stp slicePick
  refine Nat.le_trans (List.length_filterMap_le _ _) ?_
  unfold sliceBounds sliceRange
  simp only [Option.getD_some, List.size_toArray, List.length_map, List.length_range]
  rcases hlo with rfl | rfl <;> simp <;> omega
@[reducible] def sS (c : Nat) : Str := S [sg c]
theorem sg_inj {a c : Nat} (ha : a < 3) (hc : c < 3) (h : sg a = sg c) : a = c := by
  rcases (lt3 (a := a) (by assumption)) with rfl | rfl | rfl <;> rcases (lt3 (a := c) (by assumption)) with rfl | rfl | rfl <;> first | rfl | (exact absurd h (by decide))
theorem sS_inj {a c : Nat} (ha : a < 3) (hc : c < 3) (h : sS a = sS c) : a = c := by
  have := S_inj h
  exact sg_inj ha hc (by simpa using this)
theorem rv_inj {p q : Nat × Nat} (hp : p.1 < 3 ∧ p.2 < 3) (hq : q.1 < 3 ∧ q.2 < 3) (h : rv p = rv q) : p = q := by
  have := S_inj h
  simp only [List.cons.injEq, and_true] at this
  exact Prod.ext (sg_inj hp.1 hq.1 this.1) (sg_inj hp.2 hq.2 this.2)
theorem Path.climb {su : Str → List Str} {pos : Str → Nat} {names : List Str} (hp : ∀ v ∈ names, ∀ u ∈ su v, pos v < pos u) : ∀ {l : List Str} {a z : Str}, Path su (a :: (l ++ [z])) → (∀ v ∈ a :: l, v ∈ names) → pos a < pos z
  | [], a, z, p, k => hp a (k a (.head _)) z p.1
  | c :: l, a, z, p, k => by
    have h1 := hp a (k a (.head _)) c p.1
    have h2 := Path.climb hp (l := l) (a := c) (z := z) p.2 fun v hv => k v (.tail _ hv)
    omega
theorem Ring.no_pos {su : Str → List Str} {names c : List Str} (h : Ring names su c) : ¬ ∃ pos : Str → Nat, ∀ v ∈ names, ∀ u ∈ su v, pos v < pos u := by
  rintro ⟨pos, hp⟩
  obtain ⟨n, r, rfl, _, hm, p⟩ := h
  have := Path.climb hp (l := r) (a := n) (z := n) p hm
  omega
theorem Ring.not_acy {su : Str → List Str} {names c : List Str} (h : Ring names su c) : ¬ Acy names su := by
  rintro ⟨rank, hr⟩
  obtain ⟨n, r, rfl, _, hm, p⟩ := h
  have : ∀ {l : List Str} {a z : Str}, Path su (a :: (l ++ [z])) → (∀ v ∈ a :: l, v ∈ names) → rank z < rank a := by
    intro l
    induction l with
    | nil => intro a z p k; exact hr a (k a (.head _)) z p.1
    | cons c l ih =>
      intro a z p k
      have h1 := hr a (k a (.head _)) c p.1
      have h2 := ih (a := c) (z := z) p.2 fun v hv => k v (.tail _ hv)
      omega
  have := this (l := r) (a := n) (z := n) p hm
  omega
theorem once_len {ls c : List Str} (hl : ls.Nodup) (hc : c.Nodup) (h : ∀ v ∈ c, v ∈ ls) (hm : List Str) (he : ∀ v, v ∈ hm ↔ v ∈ c) : (ls.filter fun v => decide (v ∈ hm)).length = c.length := by
  apply Nat.le_antisymm
  · exact len_sub (hl.filter _) fun x hx => (he x).mp (by simpa using (List.mem_filter.mp hx).2)
  · exact len_sub hc fun x hx => List.mem_filter.mpr ⟨h x hx, by simpa using (he x).mpr hx⟩
def all3 : List (List Nat) := [[], [0], [1], [2], [0, 1], [1, 0], [0, 2], [2, 0], [1, 2], [2, 1], [0, 1, 2], [0, 2, 1], [1, 0, 2], [1, 2, 0], [2, 0, 1], [2, 1, 0]]
theorem in_all3 {l : List Nat} (h : l.Nodup) (k : ∀ x ∈ l, x < 3) : l ∈ all3 := by
  match l, h, k with
  | [], _, _ => decide
  | [a], h, k =>
    have ha := k a (by simp)
    rcases (lt3 (a := a) (by assumption)) with rfl | rfl | rfl <;> decide
  | [a, c], h, k =>
    have ha := k a (by simp)
    have hc := k c (by simp)
    have hne : a ≠ c := by simpa using h
    rcases (lt3 (a := a) (by assumption)) with rfl | rfl | rfl <;> rcases (lt3 (a := c) (by assumption)) with rfl | rfl | rfl <;> first | exact absurd rfl hne | decide
  | [a, c, d], h, k =>
    have ha := k a (by simp)
    have hc := k c (by simp)
    have hd := k d (by simp)
    have hne : a ≠ c ∧ a ≠ d ∧ c ≠ d := by simpa [and_assoc] using h
    rcases (lt3 (a := a) (by assumption)) with rfl | rfl | rfl <;> rcases (lt3 (a := c) (by assumption)) with rfl | rfl | rfl <;> rcases (lt3 (a := d) (by assumption)) with rfl | rfl | rfl <;> first | exact absurd rfl hne.1 | exact absurd rfl hne.2.1 | exact absurd rfl hne.2.2 | decide
  | a :: c :: d :: e :: r, h, k =>
    have q := len_sub (m := [0, 1, 2]) h fun x hx => by
      rcases lt3 (k x hx) with rfl | rfl | rfl <;> decide
    exact absurd q (Nat.not_le.mpr (Nat.le_add_left 4 r.length))
theorem sorted_one : ∀ l ∈ all3, sortedS (l.map sS) = true → l = [0, 1, 2].filter fun x => decide (x ∈ l) := by decide +kernel
theorem sorted_same {xs ys : List Str} (hx : xs.Nodup) (hy : ys.Nodup) (hxs : ∀ v ∈ xs, ∃ c, c < 3 ∧ v = sS c) (he : ∀ v, v ∈ xs ↔ v ∈ ys) (sx : sortedS xs = true) (sy : sortedS ys = true) : xs = ys := by
  have nat : ∀ {zs : List Str}, zs.Nodup → (∀ v ∈ zs, ∃ c, c < 3 ∧ v = sS c) → ∃ l : List Nat, zs = l.map sS ∧ l.Nodup ∧ ∀ x ∈ l, x < 3 := by
    intro zs hz hm
    obtain ⟨l, rfl, k⟩ := pre_map (f := sS) (t := [0, 1, 2]) (xs := zs) fun v hv => by
      obtain ⟨c, hc, rfl⟩ := hm v hv
      refine ⟨c, ?_, rfl⟩
      rcases (lt3 (a := c) (by assumption)) with rfl | rfl | rfl <;> decide
    refine ⟨l, rfl, List.Pairwise.of_map sS (fun a b h q => h (by rw [q])) hz, fun x hx => ?_⟩
    have := k x hx
    simp at this; omega
  obtain ⟨l, rfl, l1, l2⟩ := nat hx hxs
  obtain ⟨r, rfl, r1, r2⟩ := nat hy fun v hv => hxs v ((he v).mpr hv)
  have hm : ∀ x, x < 3 → (x ∈ l ↔ x ∈ r) := fun x hx => by
    have key : ∀ {t : List Nat}, (∀ y ∈ t, y < 3) → (sS x ∈ t.map sS ↔ x ∈ t) := fun {t} ht => by
      rw [List.mem_map]
      exact ⟨fun ⟨y, hy, e⟩ => by rw [← sS_inj (ht y hy) hx e]; exact hy, fun h => ⟨x, h, rfl⟩⟩
    have := he (sS x)
    rwa [key l2, key r2] at this
  rw [sorted_one l (in_all3 l1 l2) sx, sorted_one r (in_all3 r1 r2) sy]
  congr 1
  simp only [List.filter_cons, List.filter_nil, hm 0 (by decide), hm 1 (by decide), hm 2 (by decide)]
end
section
def inL (ls : List Nat) (p : Nat × Nat) : Bool := decide (p.1 ∈ ls) && decide (p.2 ∈ ls)
def Row (ls : List Nat) (told : List (Nat × Nat)) (row : List Str) : Prop := row.Nodup ∧ (∀ v, v ∈ row ↔ v ∈ ls.map sS) ∧ ∀ p ∈ told, ∃ l r, row = l ++ r ∧ sS p.1 ∈ l ∧ sS p.2 ∈ r
def NoRow (told : List (Nat × Nat)) : Prop := ¬ ∃ pos : Str → Nat, ∀ p ∈ told, pos (sS p.1) < pos (sS p.2)
def tb (d a c : Nat) : Bool := d.testBit (3 * a + c)
theorem bitR_eq (p : Nat × Nat) : bitR p = 2 ^ (3 * p.1 + p.2) := by unfold bitR; rw [Nat.one_mul]
theorem tb_fold : ∀ (rs : List (Nat × Nat)) (d k : Nat), (rs.foldl (fun d p => d ||| bitR p) d).testBit k = (d.testBit k || rs.any fun p => decide (3 * p.1 + p.2 = k))
  | [], d, k => by simp
  | p :: r, d, k => by
    rw [List.foldl_cons, tb_fold r, Nat.testBit_or, bitR_eq, Nat.testBit_two_pow, List.any_cons, Bool.or_assoc]
theorem tb_due {rs : List (Nat × Nat)} (h : ∀ p ∈ rs, p.1 < 3 ∧ p.2 < 3) {a c : Nat} (ha : a < 3) (hc : c < 3) : tb (dueOf rs) a c = true ↔ (a, c) ∈ rs := by
  unfold tb dueOf
  rw [tb_fold, Nat.zero_testBit, Bool.false_or, List.any_eq_true]
  constructor
  · rintro ⟨p, hp, e⟩
    have e := of_decide_eq_true e
    have := h p hp
    have h1 : p.1 = a := by omega
    have h2 : p.2 = c := by omega
    rw [← h1, ← h2]; exact hp
  · intro hp
    exact ⟨_, hp, by simp⟩
def fullW (w : List Nat) : Nat := runW 511 w / 128
structure RelW (due s t : Nat) : Prop where
  a : s / 128 = t / 128 &&& due
  c : s % 128 = t % 128
theorem and511 {d : Nat} (h : d < 512) : 511 &&& d = d := by
  rw [Nat.and_comm]
  have := Nat.and_two_pow_sub_one_eq_mod d 9
  rw [show (2 ^ 9 - 1 : Nat) = 511 from rfl] at this
  rw [this]; exact Nat.mod_eq_of_lt h
theorem RelW.step {due s t p : Nat} (hd : due < 512) (hp : p < 3) (h : RelW due s t) : RelW due (stp1 due s p) (stp1 511 t p) := by
  have z1 := seen_lt (s := s) hp
  have z2 := seen_lt (s := t) hp
  have m1 : ∀ d x, stp1 d x p / 128 = met1 d x p := fun d x => by have := seen_lt (s := x) hp; unfold stp1; omega
  have m2 : ∀ d x, stp1 d x p % 128 = (x % 128 ||| 1 * 2 ^ (3 * p)) := fun d x => by have := seen_lt (s := x) hp; unfold stp1; omega
  refine ⟨?_, ?_⟩
  · rw [m1, m1]
    unfold met1
    rw [h.a, h.c, Nat.and_or_distrib_right, Nat.and_assoc, and511 hd]
  · rw [m2, m2, h.c]
theorem RelW.run {due : Nat} (hd : due < 512) : ∀ (w : List Nat) {s t : Nat}, (∀ p ∈ w, p < 3) → RelW due s t → RelW due (w.foldl (stp1 due) s) (w.foldl (stp1 511) t)
  | [], _, _, _, h => h
  | p :: w, _, _, k, h => RelW.run hd w (fun q hq => k q (.tail _ hq)) (h.step hd (k p (.head _)))
theorem run_full {due : Nat} (hd : due < 512) {w : List Nat} (hw : ∀ p ∈ w, p < 3) : runW due w / 128 = fullW w &&& due := (RelW.run hd w hw (s := 0) (t := 0) ⟨by simp, rfl⟩).a
def mx : Nat → List Nat
  | 0 => [0]
  | 1 => [0]
  | 2 => [256, 1, 64, 32, 4, 2, 128, 8, 16]
  | 3 => [134, 11, 26, 416, 38, 44, 176, 194, 324, 69, 200, 104]
  | 4 => [27, 432, 190, 325, 207, 486, 492, 111, 250]
  | 5 => [255, 495, 510]
  | _ => [511]
def ins (l : List Nat) (x : Nat) : List Nat := if x ∈ l then l else x :: l
def dd (l : List Nat) : List Nat := l.foldl ins []
theorem dd_mem' : ∀ (l acc : List Nat) {x : Nat}, x ∈ l ∨ x ∈ acc → x ∈ l.foldl ins acc
  | [], acc, x, h => by rcases h with h | h; exact nomatch h; exact h
  | y :: l, acc, x, h => dd_mem' l _ (by
    rcases h with h | h
    · rcases List.mem_cons.mp h with rfl | h
      · right; unfold ins; split <;> simp_all
      · exact .inl h
    · right; unfold ins; split
      · exact h
      · exact .tail _ h)
def nextL (l : List Nat) : List Nat := dd (l.flatMap fun s => [stp1 511 s 0, stp1 511 s 1, stp1 511 s 2])
def lay : Nat → List Nat
  | 0 => [0]
  | k + 1 => nextL (lay k)
theorem lay_step {k s p : Nat} (h : s ∈ lay k) (hp : p < 3) : stp1 511 s p ∈ lay (k + 1) := by
  refine dd_mem' _ _ (.inl (List.mem_flatMap.mpr ⟨s, h, ?_⟩))
  rcases (lt3 (a := p) (by assumption)) with rfl | rfl | rfl <;> simp
theorem lay_run : ∀ (w : List Nat) {k s : Nat}, s ∈ lay k → (∀ p ∈ w, p < 3) → w.foldl (stp1 511) s ∈ lay (k + w.length)
  | [], _, _, h, _ => h
  | p :: w, k, s, h, hw => by
    have := lay_run w (lay_step h (hw p (.head _))) (fun q hq => hw q (.tail _ hq))
    rw [List.length_cons, show k + (w.length + 1) = k + 1 + w.length by omega]
    exact this
theorem in_lay {k : Nat} {w : List Nat} (h : Wd k w) : runW 511 w ∈ lay k := by
  have := lay_run w (k := 0) (s := 0) (by decide) h.2
  rw [Nat.zero_add, h.1] at this
  exact this
theorem lay_mx : ∀ n, n < 6 → ∀ k, k < n + 1 → ∀ s ∈ lay k, ∃ m ∈ mx n, (s / 128) &&& m = s / 128 := by decide +kernel
theorem least_of {due n : Nat} (hd : due < 512) (hn : n ≤ 6) {w : List Nat} (hw : Wd n w) (hm : fullW w &&& due = due) (hx : 0 < n → ∀ m ∈ mx (n - 1), m &&& due ≠ due) : Least due n := by
  refine ⟨⟨w, hw, by rw [run_full hd hw.2]; exact hm⟩, fun k u hk hu e => ?_⟩
  rw [run_full hd hu.2] at e
  obtain ⟨m, hmm, hs⟩ := lay_mx (n - 1) (by omega) k (by omega) _ (in_lay hu)
  refine hx (by omega) m hmm ?_
  have hs : fullW u &&& m = fullW u := hs
  have : m &&& (fullW u &&& due) = fullW u &&& due := by rw [← Nat.and_assoc, Nat.and_comm m, hs]
  rw [e] at this
  exact this
theorem least_one {due n m : Nat} (h : Least due n) (k : Least due m) : n = m := by
  obtain ⟨⟨w, hw, e⟩, h2⟩ := h
  obtain ⟨⟨u, hu, e'⟩, k2⟩ := k
  rcases Nat.lt_trichotomy n m with h | h | h
  · exact absurd e (k2 _ _ h hw)
  · exact h
  · exact absurd e' (h2 _ _ h hu)
end
section
theorem small01 {n : Nat} (h : n ≤ 1000) : Builtin.Range.small 0 (n : Int) 1 = true := by
  have hn : Builtin.Range.rangeSize 0 (n:Int) 1 = n := by simp [Builtin.Range.rangeSize]; try omega
  have f : ∀ k : Int, 0 ≤ k → k ≤ 2000 → Builtin.Range.rangeFitsLong k = true := by
    intro k h1 h2
    unfold Builtin.Range.rangeFitsLong
    simp only [Bool.and_eq_true, decide_eq_true_eq]
    constructor <;> omega
  unfold Builtin.Range.small
  rw [hn, f 0 (by omega) (by omega), f n (by omega) (by omega), f 1 (by omega) (by omega), if_pos (by decide), f _ (by omega) (by omega)]
  simp
@[reducible] def ev (p : Nat × Nat) : Str × Str := (sS p.1, sS p.2)
structure Sp (x D : Addr) (σB σ : Sto) (F : Addr → Prop) (g : Gr) (E : Edges) (T : List (Nat × Nat)) (ls : List Nat) (n : Nat) : Prop where
  hd : σ D = some (.list (T.map fun p => sv (rv p)))
  srt : Srt x F g σ
  off : ∀ a, F a → σB a = none ∧ a ≠ D
  enc : Enc g E
  sub : ∀ e ∈ E, ∃ p ∈ T, e = ev p
  nm : ∀ v ∈ g.names, v ∈ ls.map sS
  sz : ∀ u, (g.su u).length ≤ n
theorem Srt.nod {x : Addr} {F : Addr → Prop} {g : Gr} {σ : Sto} (h : Srt x F g σ) : g.names.Nodup := let ⟨_, _, h, _⟩ := h; h.nod
theorem Sp.len {x D : Addr} {σB σ : Sto} {F : Addr → Prop} {g : Gr} {E : Edges} {T : List (Nat × Nat)} {ls : List Nat} {n : Nat} (h : Sp x D σB σ F g E T ls n) : g.names.length ≤ ls.length := by
  have := len_sub h.srt.nod h.nm
  rwa [List.length_map] at this
theorem Srt.sup {x : Addr} {F : Addr → Prop} {g : Gr} {σ σ' : Sto} (h : Srt x F g σ) (k : ∀ a y, σ a = some y → σ' a = some y) : Srt x F g σ' := let ⟨A, e, h, f⟩ := h; ⟨A, e, h.sup k, f⟩
theorem SrtAt.on {A : Ad} {g : Gr} {σ σ' : Sto} (h : SrtAt A g σ) (k : ∀ a y, A.foot g a → σ a = some y → σ' a = some y) : SrtAt A g σ' :=
  ⟨⟨k _ _ (.inl rfl) h.inst.1, k _ _ (.inr (.inl rfl)) h.inst.2⟩, k _ _ (.inr (.inr (.inl rfl))) h.dict,
   fun v hv => ⟨k _ _ (.inr (.inr (.inr (.inl ⟨v, hv, .inl rfl⟩)))) (h.node v hv).1, k _ _ (.inr (.inr (.inr (.inl ⟨v, hv, .inr (.inl rfl)⟩)))) (h.node v hv).2⟩,
   fun v hv => k _ _ (.inr (.inr (.inr (.inl ⟨v, hv, .inr (.inr rfl)⟩)))) (h.succ v hv), fun rs hr => ⟨k _ _ (.inr (.inr (.inr (.inr ⟨(by rw [hr]; exact fun c => (nomatch c)), rfl⟩)))) (h.rdy rs hr).1, (h.rdy rs hr).2⟩, h.inj, h.nod⟩
theorem Srt.on {x : Addr} {F : Addr → Prop} {g : Gr} {σ σ' : Sto} (h : Srt x F g σ) (k : ∀ a y, F a → σ a = some y → σ' a = some y) : Srt x F g σ' := let ⟨A, e, h, f⟩ := h; ⟨A, e, h.on fun a y q => k a y (f a q), f⟩
theorem Sp.upd {x D : Addr} {σB σ : Sto} {F : Addr → Prop} {g : Gr} {E : Edges} {T : List (Nat × Nat)} {ls : List Nat} {n : Nat} (h : Sp x D σB σ F g E T ls n) {c : Addr} (y : AO) (hc : c ≠ D) (hF : ¬ F c) : Sp x D σB (σ.upd c y) F g E T ls n :=
  ⟨by rw [Sto.upd_ne (Ne.symm hc)]; exact h.hd, h.srt.on fun a z f e => by rw [Sto.upd_ne (fun q => hF (by rw [← q]; exact f))]; exact e, h.off, h.enc, h.sub, h.nm, h.sz⟩
theorem Sp.sup {x D : Addr} {σB σ σ' : Sto} {F : Addr → Prop} {g : Gr} {E : Edges} {T : List (Nat × Nat)} {ls : List Nat} {n : Nat} (h : Sp x D σB σ F g E T ls n) (k : ∀ a y, σ a = some y → σ' a = some y) : Sp x D σB σ' F g E T ls n :=
  ⟨k _ _ h.hd, h.srt.sup k, h.off, h.enc, h.sub, h.nm, h.sz⟩
theorem Sp.add {x D : Addr} {σB σ σ' : Sto} {F F' : Addr → Prop} {g : Gr} {E : Edges} {T : List (Nat × Nat)} {ls : List Nat} {n k : Nat} {L : Addr} {vs : List (Option Value)} (h : Sp x D σB σ F g E T ls n) (fm : Fm k σB σ L vs)
    {v : Str} {P : List (Nat × Nat)} (hv : v ∈ ls.map sS) (hP : ∀ p ∈ P, p ∈ T ∧ sS p.2 = v ∧ sS p.1 ∈ ls.map sS) (hs : Srt x F' (g.add v (P.map fun p => sS p.1)) σ') (hl : Left F F' σ σ') :
    Sp x D σB σ' F' (g.add v (P.map fun p => sS p.1)) (E ++ P.map ev) T ls (n + P.length) ∧ Fm k σB σ' L vs := by
  refine ⟨⟨hl.2 _ _ h.hd (fun f => (h.off _ f).2 rfl), hs, fun a f => ?_, ?_, fun e he => ?_, fun u hu => ?_, fun u => ?_⟩, fm.left (fun a f => (h.off a f).1) hl.2⟩
  · rcases hl.1 a f with f | f
    · exact h.off a f
    · exact ⟨fm.dom f, fun q => by rw [q, h.hd] at f; cases f⟩
  · have := h.enc.add v (P.map fun p => sS p.1)
    have e : (P.map fun p => sS p.1).map (fun p => (p, v)) = P.map ev := by
      rw [List.map_map]
      apply List.map_congr_left
      intro p hp
      show (sS p.1, v) = (sS p.1, sS p.2)
      rw [(hP p hp).2.1]
    rwa [e] at this
  · rcases List.mem_append.mp he with he | he
    · exact h.sub e he
    · obtain ⟨p, hp, rfl⟩ := List.mem_map.mp he
      exact ⟨p, (hP p hp).1, rfl⟩
  · rcases (add_names g v u _).mp hu with hu | rfl | hu
    · exact h.nm u hu
    · exact hv
    · obtain ⟨p, hp, rfl⟩ := List.mem_map.mp hu
      exact (hP p hp).2.2
  · have h1 := addp_su v u (P.map fun p => sS p.1) ((g.need v).setNp v ((g.need v).np v + (P.map fun p => sS p.1).length))
    have h2 : ((g.need v).su u).length ≤ (g.su u).length := need_su u
    have h3 := h.sz u
    refine Nat.le_trans h1 ?_
    show ((g.need v).su u).length + _ ≤ _
    rw [List.length_map]
    omega
theorem Sp.mono {x D : Addr} {σB σ : Sto} {F : Addr → Prop} {g : Gr} {E : Edges} {T : List (Nat × Nat)} {ls : List Nat} {n n' : Nat} (h : Sp x D σB σ F g E T ls n) (hn : n ≤ n') : Sp x D σB σ F g E T ls n' :=
  ⟨h.hd, h.srt, h.off, h.enc, h.sub, h.nm, fun u => Nat.le_trans (h.sz u) hn⟩
theorem Srt.tight {x : Addr} {F : Addr → Prop} {g : Gr} {σ : Sto} (h : Srt x F g σ) : Srt x (fun a => F a ∧ σ a ≠ none) g σ := let ⟨A, e, h, f⟩ := h; ⟨A, e, h, fun a q => ⟨f a q, h.dom q⟩⟩
theorem Sp.tight {x D : Addr} {σB σ : Sto} {F : Addr → Prop} {g : Gr} {E : Edges} {T : List (Nat × Nat)} {ls : List Nat} {n : Nat} (h : Sp x D σB σ F g E T ls n) : Sp x D σB σ (fun a => F a ∧ σ a ≠ none) g E T ls n :=
  ⟨h.hd, h.srt.tight, fun a f => h.off a f.1, h.enc, h.sub, h.nm, h.sz⟩
theorem Fn.monoE {prog : Program} {w : World} {h₀ : Heap} {k : Nat} {f : Value} {args : List Value} {Q Q' E E' : Value → Sto → Prop} {σ : Sto} (h : Fn prog w h₀ k f args Q E σ) (q : ∀ v σ', Q v σ' → Q' v σ') (e : ∀ v σ', E v σ' → E' v σ') : Fn prog w h₀ k f args Q' E' σ := by
  intro A s args' room ea rep
  refine codeAny_mono (h A s args' room ea rep) fun r s' p => ?_
  obtain ⟨σ', h', tk, e', rep', oc, p⟩ := p
  refine ⟨σ', h', tk, e', rep', oc, ?_⟩
  match r, p with
  | .ok (.ret v), p => exact q _ _ p
  | .error x, p => exact e _ _ p
theorem drop_keep {σ : Sto} {e a : Addr} {y z : AO} (h : σ a = some y) (he : σ e = some z) (hne : y ≠ z) : σ.drop e a = some y := by
  rw [Sto.drop_ne (fun q => by rw [q, he] at h; cases h; exact hne rfl)]; exact h
theorem SrtAt.drop {A : Ad} {g : Gr} {σ : Sto} (h : SrtAt A g σ) {e : Addr} {n : Bool} {cls a0 ctx : Value} (x : ExcIn σ e n cls a0 ctx) : SrtAt A g (σ.drop e) := by
  obtain ⟨oe, vs, he, _, hd, _⟩ := x
  have k : ∀ {a y}, σ a = some y → y ≠ .raw oe → σ.drop e a = some y := fun h1 h2 => drop_keep h1 he h2
  have r1 : ∀ {c d}, (AO.raw (instObj c d)) ≠ .raw oe := fun q => by cases q; cases hd
  have r2 : (AO.raw emptyDict) ≠ .raw oe := fun q => by cases q; cases hd
  exact ⟨⟨k h.inst.1 r1, k h.inst.2 (fun q => nomatch q)⟩, k h.dict (fun q => nomatch q), fun v hv => ⟨k (h.node v hv).1 (fun q => nomatch q), k (h.node v hv).2 r2⟩, fun v hv => k (h.succ v hv) (fun q => nomatch q), fun rs hr => ⟨k (h.rdy rs hr).1 (fun q => nomatch q), (h.rdy rs hr).2⟩, h.inj, h.nod⟩
theorem Srt.drop {x : Addr} {F : Addr → Prop} {g : Gr} {σ : Sto} (h : Srt x F g σ) {e : Addr} {n : Bool} {cls a0 ctx : Value} (y : ExcIn σ e n cls a0 ctx) : Srt x F g (σ.drop e) := let ⟨A, q, h, f⟩ := h; ⟨A, q, h.drop y, f⟩
theorem Fm.drop {k : Nat} {σB σ : Sto} {L : Addr} {vs : List (Option Value)} (h : Fm k σB σ L vs) {e : Addr} (n : σB e = none) : Fm k σB (σ.drop e) L vs :=
  ⟨h.len, h.base, fun a y q c => by rw [Sto.drop_ne (fun z => by rw [z, n] at q; cases q)]; exact h.keep a y q c, fun i v q => by
    rw [Sto.drop_ne (fun z => h.base i (by rw [← h.len]; exact (List.getElem?_eq_some_iff.mp q).1) (by rw [z]; exact n))]; exact h.cl i v q⟩
theorem Path.at {su : Str → List Str} : ∀ {l : List Str} {k : Nat} {a b : Str}, Path su l → l[k]? = some a → l[k + 1]? = some b → b ∈ su a
  | [], k, a, b, _, h, _ => by simp at h
  | [x], k, a, b, _, _, h => by simp at h
  | x :: y :: r, 0, a, b, p, h1, h2 => by cases h1; cases h2; exact p.1
  | x :: y :: r, k + 1, a, b, p, h1, h2 => Path.at (l := y :: r) (k := k) p.2 h1 h2
structure Rd (x D W : Addr) (σB σ : Sto) (F : Addr → Prop) (g : Gr) (T : List (Nat × Nat)) (row : List Str) : Prop where
  hd : σ D = some (.list (T.map fun p => sv (rv p)))
  hw : σ W = some (.list (row.map sv))
  srt : Srt x F g σ
  off : ∀ a, F a → σB a = none ∧ a ≠ D ∧ a ≠ W
  wn : σB W = none
  wd : W ≠ D
section
variable {x D W : Addr} {σB σ : Sto} {F : Addr → Prop} {g : Gr} {T : List (Nat × Nat)} {row : List Str}
theorem Rd.sup (h : Rd x D W σB σ F g T row) {σ' : Sto} (k : ∀ a y, σ a = some y → σ' a = some y) : Rd x D W σB σ' F g T row := ⟨k _ _ h.hd, k _ _ h.hw, h.srt.sup k, h.off, h.wn, h.wd⟩
theorem Rd.upd (h : Rd x D W σB σ F g T row) {c : Addr} (y : AO) (hc : c ≠ D) (hw : c ≠ W) (hF : ¬ F c) : Rd x D W σB (σ.upd c y) F g T row :=
  ⟨by rw [Sto.upd_ne (Ne.symm hc)]; exact h.hd, by rw [Sto.upd_ne (Ne.symm hw)]; exact h.hw, h.srt.on fun a z f e => by rw [Sto.upd_ne (fun q => hF (by rw [← q]; exact f))]; exact e, h.off, h.wn, h.wd⟩
theorem Rd.ext (h : Rd x D W σB σ F g T row) (row' : List Str) : Rd x D W σB (σ.upd W (.list (row'.map sv))) F g T row' :=
  ⟨by rw [Sto.upd_ne (Ne.symm h.wd)]; exact h.hd, Sto.upd_same _ _ _, h.srt.on fun a z f e => by rw [Sto.upd_ne (fun q => (h.off a f).2.2 q)]; exact e, h.off, h.wn, h.wd⟩
theorem Rd.left (h : Rd x D W σB σ F g T row) {k : Nat} {L : Addr} {vs : List (Option Value)} (fm : Fm k σB σ L vs) {F' : Addr → Prop} {g' : Gr} {σ' : Sto} (hs : Srt x F' g' σ') (hl : Left F F' σ σ') : Rd x D W σB σ' F' g' T row ∧ Fm k σB σ' L vs := by
  refine ⟨⟨hl.2 _ _ h.hd (fun f => (h.off _ f).2.1 rfl), hl.2 _ _ h.hw (fun f => (h.off _ f).2.2 rfl), hs, fun a f => ?_, h.wn, h.wd⟩, fm.left (fun a f => (h.off a f).1) hl.2⟩
  rcases hl.1 a f with f | f
  · exact h.off a f
  · exact ⟨fm.dom f, (fun q => by rw [q, h.hd] at f; cases f), (fun q => by rw [q, h.hw] at f; cases f)⟩
theorem Rd.cell (h : Rd x D W σB σ F g T row) {k : Nat} {L : Addr} {vs : List (Option Value)} (fm : Fm k σB σ L vs) (hD : σB D = none) {i : Nat} (hi : i < k) (y : AO) : Rd x D W σB (σ.upd (L + 1 + i) y) F g T row :=
  h.upd y (fun q => fm.base i hi (by rw [q]; exact hD)) (fun q => fm.base i hi (by rw [q]; exact h.wn)) (fun f => fm.base i hi (h.off _ f).1)
end
noncomputable def ob_lor (w : World) : {o // (K1 w).lookup 252 = some o} := ⟨_, rfl⟩
noncomputable def fd_lor (w : World) : {fd // (ob_lor w).1.data = .func fd} := ⟨_, rfl⟩
noncomputable def bd_lor (w : World) : {b // (fd_lor w).1.body = .stmts b} := ⟨_, rfl⟩
noncomputable def cx_lor (w : World) (h₀ : Heap) (A : Around) (L : Addr) : Cx := ⟨prog1, w, h₀, A, callEnvC (fd_lor w).1 L 252, botE⟩
inductive LorA (ls : List Nat) (x D l : Addr) (σ3 : Sto) (L0 : Addr) (T P : List (Nat × Nat)) (i : Nat) (m' : Map) (σ' : Sto) : Prop
  | mk (F) (g) (E) (c2) (q1 : m' (Str.ofString "sorter") = some (.ref x)) (q2 : Fm 6 σ3 σ' L0 [some (.ref l), some (.ref D), c2, none, none, none]) (q3 : Sp x D σ3 σ' F g E T ls (63 * i)) (q4 : (∀ p ∈ P, p.2 ∈ ls.take i → ev p ∈ E)) (q5 : ∀ c ∈ ls.take i, sS c ∈ g.names) : LorA ls x D l σ3 L0 T P i m' σ'
inductive LorB (ls : List Nat) (x D l S : Addr) (σ3 : Sto) (L0 : Addr) (T P O : List (Nat × Nat)) (c2 : Option Value) (i : Nat) (m' : Map) (σ' : Sto) : Prop
  | mk (F) (g) (E) (q1 : m' (Str.ofString "sorter") = some (.ref x)) (q2 : Fm 6 σ3 σ' L0 [some (.ref l), some (.ref D), c2, none, none, none]) (q3 : σ' S = some (.list (O.map fun p => sv (rv p)))) (q4 : ¬ F S) (q5 : Sp x D σ3 σ' F g E T ls (63 * ls.length + i)) (q6 : (∀ p ∈ P, p.2 ∈ ls → ev p ∈ E)) (q7 : (∀ p ∈ O.take i, ev p ∈ E)) (q8 : ∀ c ∈ ls, sS c ∈ g.names) : LorB ls x D l S σ3 L0 T P O c2 i m' σ'
inductive LorC (ls : List Nat) (x D W l : Addr) (σ3 : Sto) (L0 : Addr) (T : List (Nat × Nat)) (g2 : Gr) (E2 : Edges) (i : Nat) (m' : Map) (σ' : Sto) : Prop
  | mk (F) (g) (c2) (c5) (row) (rr) (q1 : m' (Str.ofString "sorter") = some (.ref x)) (q2 : Fm 6 σ3 σ' L0 [some (.ref l), some (.ref D), c2, none, some (.ref W), c5]) (q3 : Rd x D W σ3 σ' F g T row) (q4 : Kn g E2 g2.names g2.su row rr) (q5 : (i ≤ row.length ∨ ∀ v ∈ g2.names, v ∈ row)) : LorC ls x D W l σ3 L0 T g2 E2 i m' σ'
@[reducible] def LorPost (T : List (Nat × Nat)) (ls : List Nat) (σ : Sto) (r : Value) (σ' : Sto) : Prop := (∀ a z, σ a = some z → σ' a = some z) ∧
      ((r = .none ∧ NoRow (T)) ∨ ∃ D row, r = .ref D ∧ σ' D = some (.list (row.map sv)) ∧ Row ls (T) row)
set_option maxHeartbeats 4000000 in
theorem fn_lor {w : World} {h₀ : Heap} (b : Bs w h₀) {σ : Sto} {a l : Addr} {rs : List (Nat × Nat)} {ls : List Nat} (hr : ∀ p ∈ rs, p.1 < 3 ∧ p.2 < 3) (hls : ∀ c ∈ ls, c < 3) (hln : ls.Nodup) (hz : rs.length ≤ 63)
    (ha : σ a = some (.list (rs.map fun p => sv (rv p)))) (hl : σ l = some (.list ((ls.map sS).map sv))) : Fn prog1 w h₀ 45 (.ref 252) [.ref a, .ref l] (LorPost (rs.filter (inL ls)) ls σ) botF σ := by
  refine fn_plainC (o := (ob_lor w).1) (fd := (fd_lor w).1) (body := (bd_lor w).1) (names := [("rules" : Str), "left"]) (b.X 252 _ (ob_lor w).2) (fd_lor w).2 (bd_lor w).2 (by rfl) b.nolimit (b.code (c := 251) (by rfl) (by rfl) (by rfl)) ?_ (by intro _; rfl) (by intro _; show [("held" : Str), "row", "ring", "sign", "told", "left"].Nodup; decide) ?_
  · intro vals hv
    obtain ⟨a, c, rfl, _, _⟩ := inv2 hv
    rfl
  · intro Ar L0 room hfr hL hc
    have hc2 : ∀ i : Nat, i < 6 → σ (L0 + 1 + i) = none ∧ L0 + 1 + i ≠ L0 := fun i hi => by
      have := hc
      rcases (show i = 0 ∨ i = 1 ∨ i = 2 ∨ i = 3 ∨ i = 4 ∨ i = 5 by omega) with rfl | rfl | rfl | rfl | rfl | rfl
      · exact hc (("left" : Str), L0 + 1) (by show _ ∈ [_, _, _, _, _, _]; simp)
      · exact hc (("told" : Str), L0 + 1 + 1) (by show _ ∈ [_, _, _, _, _, _]; simp)
      · exact hc (("sign" : Str), L0 + 1 + 1 + 1) (by show _ ∈ [_, _, _, _, _, _]; simp)
      · exact hc (("ring" : Str), L0 + 1 + 1 + 1 + 1) (by show _ ∈ [_, _, _, _, _, _]; simp)
      · exact hc (("row" : Str), L0 + 1 + 1 + 1 + 1 + 1) (by show _ ∈ [_, _, _, _, _, _]; simp)
      · exact hc (("held" : Str), L0 + 1 + 1 + 1 + 1 + 1 + 1) (by show _ ∈ [_, _, _, _, _, _]; simp)
    show (cx_lor w h₀ Ar L0).W (execs (bd_lor w).1 (cx_lor w h₀ Ar L0).env) _ _ ((((((σ.upd (L0 + 1 + 0) (.cell (some (.ref l)))).upd (L0 + 1 + 1) (.cell none)).upd (L0 + 1 + 2) (.cell none)).upd (L0 + 1 + 3) (.cell none)).upd (L0 + 1 + 4) (.cell none)).upd (L0 + 1 + 5) (.cell none))
    generalize hσB : Sto.upd (Sto.upd (Sto.upd (Sto.upd (Sto.upd (Sto.upd σ _ _) _ _) _ _) _ _) _ _) _ _ = σB
    have nn : ∀ i j : Nat, i ≠ j → L0 + 1 + i ≠ L0 + 1 + j := fun i j h q => h (Nat.add_left_cancel (show (L0 + 1 : Nat) + i = L0 + 1 + j from q))
    have e0 : σB (L0 + 1 + 0) = some (.cell (some (.ref l))) := by
      rw [← hσB, Sto.upd_ne (nn _ _ (by decide)), Sto.upd_ne (nn _ _ (by decide)), Sto.upd_ne (nn _ _ (by decide)), Sto.upd_ne (nn _ _ (by decide)), Sto.upd_ne (nn _ _ (by decide)), Sto.upd_same]
    have e1 : σB (L0 + 1 + 1) = some (.cell none) := by
      rw [← hσB, Sto.upd_ne (nn _ _ (by decide)), Sto.upd_ne (nn _ _ (by decide)), Sto.upd_ne (nn _ _ (by decide)), Sto.upd_ne (nn _ _ (by decide)), Sto.upd_same]
    have e2 : σB (L0 + 1 + 2) = some (.cell none) := by
      rw [← hσB, Sto.upd_ne (nn _ _ (by decide)), Sto.upd_ne (nn _ _ (by decide)), Sto.upd_ne (nn _ _ (by decide)), Sto.upd_same]
    have e3 : σB (L0 + 1 + 3) = some (.cell none) := by
      rw [← hσB, Sto.upd_ne (nn _ _ (by decide)), Sto.upd_ne (nn _ _ (by decide)), Sto.upd_same]
    have e4 : σB (L0 + 1 + 4) = some (.cell none) := by
      rw [← hσB, Sto.upd_ne (nn _ _ (by decide)), Sto.upd_same]
    have e5 : σB (L0 + 1 + 5) = some (.cell none) := by
      rw [← hσB, Sto.upd_same]
    have fm : Fm 6 σB σB L0 [some (.ref l), none, none, none, none, none] := by
      refine ⟨rfl, fun i hi => ?_, fun a y e _ => e, fun i v e => ?_⟩
      · rcases (show i = 0 ∨ i = 1 ∨ i = 2 ∨ i = 3 ∨ i = 4 ∨ i = 5 by omega) with rfl | rfl | rfl | rfl | rfl | rfl
        · rw [e0]; exact fun c => nomatch c
        · rw [e1]; exact fun c => nomatch c
        · rw [e2]; exact fun c => nomatch c
        · rw [e3]; exact fun c => nomatch c
        · rw [e4]; exact fun c => nomatch c
        · rw [e5]; exact fun c => nomatch c
      · have hi : i < 6 := (List.getElem?_eq_some_iff.mp e).1
        rcases (show i = 0 ∨ i = 1 ∨ i = 2 ∨ i = 3 ∨ i = 4 ∨ i = 5 by omega) with rfl | rfl | rfl | rfl | rfl | rfl <;> cases e <;> assumption
    have hσ : ∀ a y, σ a = some y → σB a = some y ∧ ∀ i : Nat, i < 6 → a ≠ L0 + 1 + i := fun a y e => by
      have ne : ∀ i : Nat, i < 6 → a ≠ L0 + 1 + i := fun i hi q => by rw [q, (hc2 i hi).1] at e; cases e
      refine ⟨?_, ne⟩
      rw [← hσB, Sto.upd_ne (ne 5 (by decide)), Sto.upd_ne (ne 4 (by decide)), Sto.upd_ne (ne 3 (by decide)), Sto.upd_ne (ne 2 (by decide)), Sto.upd_ne (ne 1 (by decide)), Sto.upd_ne (ne 0 (by decide))]
      exact e
    clear hσB e0 e1 e2 e3 e4 e5
    have ha0 := (hσ _ _ ha).1
    have hl0 := (hσ _ _ hl).1
    have hla := (hσ _ _ hl).2
    have haa := (hσ _ _ ha).2
    have X : (K1 w).In (cx_lor w h₀ Ar L0).h₀ := b.X
    have hp := b.past
    have hh : Ar.handled = none := room.2.2 (by decide)
    have hrng : GV (cx_lor w h₀ Ar L0).h₀ "range" (.type "range") := b.built (by rfl) (by rfl) (by decide)
    have hlen : GV (cx_lor w h₀ Ar L0).h₀ "len" (.builtin "len") := b.built (by rfl) (by rfl) (by decide)
    have hsrt : GV (cx_lor w h₀ Ar L0).h₀ "TopologicalSorter" (.ref 154) := b.glob (by rfl)
    have hcyc : GV (cx_lor w h₀ Ar L0).h₀ "CycleError" (.ref 72) := b.glob (by rfl)
    have hisi : GV (cx_lor w h₀ Ar L0).h₀ "isinstance" (.builtin "isinstance") := b.built (by rfl) (by rfl) (by decide)
    have htup : GV (cx_lor w h₀ Ar L0).h₀ "tuple" (.type "tuple") := b.built (by rfl) (by rfl) (by decide)
    have hsorted : GV (cx_lor w h₀ Ar L0).h₀ "sorted" (.builtin "sorted") := b.built (by rfl) (by rfl) (by decide)
    refine s_cons ?_
    repeat walk_at "w"
    refine v_comp (cl := [(("left" : Str), L0 + 1 + 0)]) (by rfl) ?_
    repeat walk_at "w"
    refine ⟨rs.map fun p => sv (rv p), fun σ' => σ' a = some (.list (rs.map fun p => sv (rv p))), fun i acc σ' => σ' = σB ∧ acc = ((rs.take i).filter (inL ls)).map fun p => sv (rv p), iters_list, by walk_at "sz", ⟨rfl, rfl⟩, fun i acc σ' h => by rw [h.1]; exact ha0, ?_, ?_⟩
    · rintro Cl i v acc σ2 mc hv ⟨rfl, rfl⟩ hacc
      rw [List.getElem?_map, Option.map_eq_some_iff] at hv
      obtain ⟨p, hpi, rfl⟩ := hv
      refine ifs_one ?_
      repeat walk_at "w"
      have hpr := hr p (List.mem_of_getElem? hpi)
      have tk : (rs.take (i + 1)).filter (inL ls) = (rs.take i).filter (inL ls) ++ (if inL ls p then [p] else []) := by
        rw [List.take_add_one, hpi, List.filter_append]
        by_cases q : inL ls p = true <;> simp [q]
      have cLeft := fm.cl 0 _ rfl
      refine ⟨got_str, o_getn (i := 0) (c := sg p.1) (by rfl) (by walk_at "sz") ?_⟩
      repeat walk_at "w"
      refine o_inl hl0 ?_
      have hm : ∀ c, c < 3 → (sS c ∈ ls.map sS ↔ c ∈ ls) := fun c hc => by
        rw [List.mem_map]
        exact ⟨fun ⟨y, hy, e⟩ => by rw [← sS_inj (hls y hy) hc e]; exact hy, fun h => ⟨c, h, rfl⟩⟩
      repeat walk_at "w"
      by_cases q1 : p.1 ∈ ls
      · refine if_t (by simp [(hm _ hpr.1).mpr q1]) ?_
        repeat walk_at "w"
        refine ⟨got_str, o_getn (i := 1) (c := sg p.2) (by rfl) (by walk_at "sz") ?_⟩
        repeat walk_at "w"
        refine o_inl hl0 ?_
        repeat walk_at "w"
        by_cases q2 : p.2 ∈ ls
        · refine if_t (by simp [(hm _ hpr.2).mpr q2]) ?_
          repeat walk_at "w"
          refine ⟨rfl, ?_⟩
          rw [tk, if_pos (show inL ls p = true by simp [inL, q1, q2]), List.map_append]; rfl
        · have n2 : ¬ sS p.2 ∈ ls.map sS := fun h => q2 ((hm _ hpr.2).mp h)
          refine if_f (by simp only [n2, decide_false]) ?_
          repeat walk_at "w"
          refine ⟨rfl, ?_⟩
          rw [tk, if_neg (show ¬ inL ls p = true by simp [inL, q1, q2]), List.append_nil]
      · have n1 : ¬ sS p.1 ∈ ls.map sS := fun h => q1 ((hm _ hpr.1).mp h)
        refine if_f (by simp only [n1, decide_false]) ?_
        repeat walk_at "w"
        refine ⟨rfl, ?_⟩
        rw [tk, if_neg (show ¬ inL ls p = true by simp [inL, q1]), List.append_nil]
    · rintro acc σ3 ⟨h3, rfl⟩ D hD
      subst h3
      rw [List.length_map, List.take_length]
      generalize hT : rs.filter (inL ls) = T
      have hTm : ∀ p ∈ T, p ∈ rs ∧ p.1 ∈ ls ∧ p.2 ∈ ls := fun p hp => by
        rw [← hT] at hp
        obtain ⟨h1, h2⟩ := List.mem_filter.mp hp
        unfold inL at h2
        simp only [Bool.and_eq_true, decide_eq_true_eq] at h2
        exact ⟨h1, h2⟩
      have hTl : T.length ≤ 63 := by rw [← hT]; exact Nat.le_trans (List.length_filter_le _ _) hz
      have fm1 := (fm.fresh hD (.list (T.map fun p => sv (rv p)))).put (i := 1) (by decide) (.ref D)
      have hDn : ∀ i : Nat, i < 6 → D ≠ L0 + 1 + i := fm.ne hD
      have hDl1 : ((σ3.upd D (.list (T.map fun p => sv (rv p)))).upd (L0 + 1 + 1) (.cell (some (.ref D)))) D = some (.list (T.map fun p => sv (rv p))) := by
        rw [Sto.upd_ne (hDn 1 (by decide)), Sto.upd_same]
      refine put_cell (c := L0 + 1 + 1) (v₀ := none) (by rfl) ((fm.fresh hD (.list (T.map fun p => sv (rv p)))).cl 1 _ rfl) ?_
      generalize Sto.upd (Sto.upd σ3 D _) (L0 + 1 + 1) _ = σ4 at fm1 hDl1 ⊢
      repeat walk_at "w"
      refine call_fn (k := 2) (Room.le room (by decide)) (Fn.mono (fn_new b) fun r σ5 q => ?_)
      obtain ⟨x, F0, rfl, hs0, hF0, k0⟩ := q
      have fm2 := fm1.sup k0
      have hDl2 := k0 _ _ hDl1
      repeat walk_at "w"
      refine s_for ?_
      have cLeft := fm2.cl 0 _ rfl
      have cTold := fm2.cl 1 _ rfl
      repeat walk_at "w"
      have tin : ∀ {lo hi k v}, v ∈ stp lo hi k (T.map fun p => sv (rv p)) → ∃ p ∈ T, v = sv (rv p) := fun hv => by
        obtain ⟨p, hp, e⟩ := List.mem_map.mp (mem_stp hv)
        exact ⟨p, hp, e.symm⟩
      obtain ⟨P, hP, hPT⟩ := pre_map (f := fun p => sv (rv p)) (t := T) (xs := stp none none (some 2) (T.map fun p => sv (rv p))) (fun v hv => tin hv)
      obtain ⟨O, hO, hOT⟩ := pre_map (f := fun p => sv (rv p)) (t := T) (xs := stp (some 1) none (some 2) (T.map fun p => sv (rv p))) (fun v hv => tin hv)
      have hPl : P.length ≤ 63 := by
        have := stp_len none none (some 2) (T.map fun p => sv (rv p)) rfl (.inl rfl) rfl
        rw [hP, List.length_map, List.length_map] at this; omega
      have hOl : O.length ≤ 63 := by
        have := stp_len (some 1) none (some 2) (T.map fun p => sv (rv p)) rfl (.inr rfl) rfl
        rw [hO, List.length_map, List.length_map] at this; omega
      have lt3 : ∀ p ∈ T, p.1 < 3 ∧ p.2 < 3 := fun p hp => hr p (hTm p hp).1
      have back : ∀ {R : List (Nat × Nat)} {p}, p ∈ T → (∀ q ∈ R, q ∈ T) → sv (rv p) ∈ R.map (fun p => sv (rv p)) → p ∈ R := fun hp hR h => by
        obtain ⟨q, hq, e⟩ := List.mem_map.mp h
        have := rv_inj (lt3 q (hR q hq)) (lt3 _ hp) (sv_inj e)
        rw [← this]; exact hq
      have hcov : ∀ p ∈ T, p ∈ P ∨ p ∈ O := fun p hp => by
        rcases stp_both (List.mem_map_of_mem (f := fun p => sv (rv p)) hp) with h | h
        · rw [hP] at h; exact .inl (back hp hPT h)
        · rw [hO] at h; exact .inr (back hp hOT h)
      have inS : ∀ p ∈ T, sS p.1 ∈ ls.map sS ∧ sS p.2 ∈ ls.map sS := fun p hp => ⟨List.mem_map_of_mem (hTm p hp).2.1, List.mem_map_of_mem (hTm p hp).2.2⟩
      have hlsn : (ls.map sS).Nodup := by
        unfold List.Nodup at hln ⊢
        rw [List.pairwise_map]
        exact hln.imp_of_mem fun ha hb q e => q (sS_inj (hls _ ha) (hls _ hb) e)
      have hsl : ls.length ≤ 3 := by
        have := len_sub (m := [0, 1, 2]) hln fun c hc => by
          have := hls c hc
          rcases (Mine.lt3 (a := c) (by assumption)) with rfl | rfl | rfl <;> decide
        exact this
      refine ⟨(ls.map sS).map sv, fun σ' => σ' l = some (.list ((ls.map sS).map sv)), LorA ls x D l σ3 L0 T P,
        iters_list, ⟨F0, Gr.empty, [], none, rfl, fm2, ⟨hDl2, hs0, fun a f => ⟨fm1.dom (hF0 a f), fun q => by have := hF0 a f; rw [q, hDl1] at this; cases this⟩, Enc.empty, fun e he => (nomatch he), fun v hv => (nomatch hv), fun u => Nat.zero_le _⟩, fun p _ h => (nomatch h), fun c h => (nomatch h)⟩,
        fun i m σ' h => by obtain ⟨F, g, E, c2, _, f, _⟩ := h; exact f.keep _ _ hl0 hla, ?_, ?_⟩
      · rintro i v m₁ σ6 hv ⟨F, g, E, c2, h1, fm3, sp, hE, hN⟩
        rw [List.getElem?_map, List.getElem?_map, Option.map_map, Option.map_eq_some_iff] at hv
        obtain ⟨c, hci, hve⟩ := hv
        have hve : v = sv (sS c) := hve.symm
        subst hve
        have hcl := List.mem_of_getElem? hci
        have hc3 := hls c hcl
        have hil : i < ls.length := (List.getElem?_eq_some_iff.mp hci).1
        refine put_cell (c := L0 + 1 + 2) (by rfl) (fm3.cl 2 _ rfl) ?_
        have fm4 := fm3.put (i := 2) (by decide) (sv (sS c))
        have sp4 := sp.upd (.cell (some (sv (sS c)))) (c := L0 + 1 + 2) (Ne.symm (hDn 2 (by decide))) (fun f => fm.base 2 (by decide) (sp.off _ f).1)
        generalize Sto.upd σ6 (L0 + 1 + 2) _ = σ7 at fm4 sp4 ⊢
        have cTold := fm4.cl 1 _ rfl
        have cSign := fm4.cl 2 _ rfl
        repeat walk_at "w"
        obtain ⟨A, hAx, hsA, hAF⟩ := id sp4.srt
        refine v_methS ?_
        repeat walk_at "w"
        rw [← hAx]
        refine a_bmeth X hsA.inst (f := 104) (by rfl) (fun M hM => ?_) (by rfl) (by rfl) (by rfl) (by rfl) (by kernel_rfl) (by kernel_rfl) (by rfl)
        rw [hAx]
        refine ⟨M, rfl, ?_⟩
        have fm5 := fm4.fresh hM (.raw (methodObj (.ref 104) (.ref x)))
        have sp5 := sp4.sup (σ' := σ7.upd M (.raw (methodObj (.ref 104) (.ref x)))) (fun a y e => upd_fresh e hM)
        have hM1 : (σ7.upd M (.raw (methodObj (.ref 104) (.ref x)))) M = some (.raw (methodObj (.ref 104) (.ref x))) := Sto.upd_same _ _ _
        generalize Sto.upd σ7 M _ = σ8 at fm5 sp5 hM1 ⊢
        have cTold := fm5.cl 1 _ rfl
        have cSign := fm5.cl 2 _ rfl
        repeat walk_at "w"
        refine it_star ?_
        refine v_comp (cl := [(("sign" : Str), L0 + 1 + 2)]) (by rfl) ?_
        refine v_slice3 (k := 2) ?_ (by decide)
        repeat walk_at "w"
        refine ⟨D, _, rfl, rfl, sp5.hd, by walk_at "sz", fun S hS => ?_⟩
        rw [hP]
        have fm6 := fm5.fresh hS (.list (P.map fun p => sv (rv p)))
        have sp6 := sp5.sup (σ' := σ8.upd S (.list (P.map fun p => sv (rv p)))) (fun a y e => upd_fresh e hS)
        have hM2 := upd_fresh hM1 hS (w := .list (P.map fun p => sv (rv p)))
        have hS1 : (σ8.upd S (.list (P.map fun p => sv (rv p)))) S = some (.list (P.map fun p => sv (rv p))) := Sto.upd_same _ _ _
        generalize Sto.upd σ8 S _ = σ9 at fm6 sp6 hM2 hS1 ⊢
        have cSign := fm6.cl 2 _ rfl
        refine ⟨P.map fun p => sv (rv p), fun σ' => σ' S = some (.list (P.map fun p => sv (rv p))), fun j acc σ' => σ' = σ9 ∧ acc = ((P.take j).filter (fun p => decide (p.2 = c))).map fun p => sv (sS p.1), iters_list, by walk_at "sz", ⟨rfl, rfl⟩, fun j acc σ' h => by rw [h.1]; exact hS1, ?_, ?_⟩
        · rintro Cl j v acc σ' mc hv ⟨hσ', rfl⟩ hacc
          subst hσ'
          rw [List.getElem?_map, Option.map_eq_some_iff] at hv
          obtain ⟨p, hpj, rfl⟩ := hv
          have hp3 := lt3 p (hPT p (List.mem_of_getElem? hpj))
          have tk : (P.take (j + 1)).filter (fun p => decide (p.2 = c)) = (P.take j).filter (fun p => decide (p.2 = c)) ++ (if p.2 = c then [p] else []) := by
            rw [List.take_add_one, hpj, List.filter_append]
            by_cases q : p.2 = c <;> simp [q]
          refine ifs_one ?_
          repeat walk_at "w"
          refine ⟨got_str, o_getn (i := 1) (c := sg p.2) (by rfl) (by walk_at "sz") ?_⟩
          repeat walk_at "w"
          by_cases q : p.2 = c
          · refine if_t (by rw [q]; simp) ?_
            repeat walk_at "w"
            refine ⟨got_str, o_getn (i := 0) (c := sg p.1) (by rfl) (by walk_at "sz") ?_⟩
            refine ⟨rfl, ?_⟩
            rw [tk, if_pos q, List.map_append]; rfl
          · refine if_f (by simp only [decide_eq_false_iff_not]; exact fun h => q (sS_inj hp3.2 hc3 h)) ?_
            refine ⟨rfl, ?_⟩
            rw [tk, if_neg q, List.append_nil]
        · rintro acc σ' ⟨hσ', rfl⟩ B hB
          subst hσ'
          rw [List.length_map, List.take_length]
          generalize hPc : P.filter (fun p => decide (p.2 = c)) = Pc
          have hPcm : ∀ p ∈ Pc, p ∈ P ∧ p.2 = c := fun p hp => by
            rw [← hPc] at hp
            obtain ⟨h1, h2⟩ := List.mem_filter.mp hp
            exact ⟨h1, of_decide_eq_true h2⟩
          have hPcl : Pc.length ≤ 63 := by rw [← hPc]; exact Nat.le_trans (List.length_filter_le _ _) hPl
          have fm7 := fm6.fresh hB (.list (Pc.map fun p => sv (sS p.1)))
          have sp7 := sp6.sup (σ' := σ'.upd B (.list (Pc.map fun p => sv (sS p.1)))) (fun a y e => upd_fresh e hB)
          have hM3 := upd_fresh hM2 hB (w := .list (Pc.map fun p => sv (sS p.1)))
          refine ⟨B, _, rfl, .inl (Sto.upd_same _ _ _), by walk_at "sz", ?_⟩
          generalize Sto.upd σ' B _ = σ10 at fm7 sp7 hM3 ⊢
          repeat walk_at "w"
          refine ⟨keeps_bm hM3 (b.X 104 _ (ob_add w).2) (fd_add w).2, call_bm (k := 44) (Room.le room (by decide)) hM3 rfl ?_⟩
          have fadd := fn_add b (sS c) (Pc.map fun p => sS p.1) sp7.srt sp7.enc.rdn (by have := sp7.len; rw [List.length_map]; omega) (fun u => Nat.le_trans (sp7.sz u) (by omega))
          have ea : [Value.ref x, sv (sS c)] ++ (Pc.map fun p => sS p.1).map sv = .ref x :: app [] (sv (sS c) :: ((Pc.map fun p => sv (sS p.1)) ++ [])) := by
            rw [List.map_map, List.append_nil]; rfl
          rw [ea] at fadd
          refine Fn.mono fadd fun r σ11 q => ?_
          obtain ⟨rfl, F', hs', hl'⟩ := q
          obtain ⟨sp8, fm8⟩ := sp7.add fm7 (v := sS c) (P := Pc) (List.mem_map_of_mem hcl) (fun p hp => ⟨hPT p (hPcm p hp).1, by rw [(hPcm p hp).2], (inS p (hPT p (hPcm p hp).1)).1⟩) hs' hl'
          have tk : ∀ y, y ∈ ls.take (i + 1) ↔ y ∈ ls.take i ∨ y = c := fun y => by rw [List.take_add_one, hci]; simp
          repeat walk_at "w"
          refine ⟨F', _, _, _, h1, fm8, sp8.mono (by omega), fun p hp h => ?_, fun y hy => ?_⟩
          · rcases (tk _).mp h with h | h
            · exact List.mem_append_left _ (hE p hp h)
            · exact List.mem_append_right _ (List.mem_map_of_mem (by rw [← hPc]; exact List.mem_filter.mpr ⟨hp, by simp [h]⟩))
          · rw [add_names]
            rcases (tk _).mp hy with h | rfl
            · exact .inl (hN y h)
            · exact .inr (.inl rfl)
      · rintro m₁ σ6 ⟨F, g, E, c2, h1, fm3, sp, hE, hN⟩
        rw [List.length_map, List.length_map, List.take_length] at hE hN
        rw [List.length_map, List.length_map] at sp
        have cTold := fm3.cl 1 _ rfl
        refine s_cons ?_
        refine s_for ?_
        refine v_slice3 (k := 2) ?_ (by decide)
        repeat walk_at "w"
        refine ⟨D, _, rfl, rfl, sp.hd, by walk_at "sz", fun S hS => ?_⟩
        rw [hO]
        have fm4 := fm3.fresh hS (.list (O.map fun p => sv (rv p)))
        have sp4 := sp.tight.sup (σ' := σ6.upd S (.list (O.map fun p => sv (rv p)))) (fun a y e => upd_fresh e hS)
        have hS1 : (σ6.upd S (.list (O.map fun p => sv (rv p)))) S = some (.list (O.map fun p => sv (rv p))) := Sto.upd_same _ _ _
        refine ⟨O.map fun p => sv (rv p), fun σ' => σ' S = some (.list (O.map fun p => sv (rv p))), LorB ls x D l S σ3 L0 T P O c2, iters_list, ⟨_, g, E, h1, fm4, hS1, fun f => f.2 hS, sp4, hE, fun p h => (nomatch h), hN⟩, fun i m σ' h => by obtain ⟨_, _, _, _, _, h, _⟩ := h; exact h, ?_, ?_⟩
        · rintro i v m₂ σ7 hv ⟨F2, g2, E2, h1, fm5, hS2, hFS2, sp5, hP2, hO2, hN2⟩
          rw [List.getElem?_map, Option.map_eq_some_iff] at hv
          obtain ⟨p, hpi, rfl⟩ := hv
          have hpO := List.mem_of_getElem? hpi
          have hpT := hOT p hpO
          have hil : i < O.length := (List.getElem?_eq_some_iff.mp hpi).1
          repeat walk_at "w"
          obtain ⟨A, hAx, hsA, hAF⟩ := id sp5.srt
          rw [← hAx]
          refine a_meth X hsA.inst (by rfl) ?_ (by rfl) (by rfl) (by rfl)
          rw [hAx]
          repeat walk_at "w"
          refine ⟨got_str, o_getn (i := 1) (c := sg p.2) (by rfl) (by walk_at "sz") ?_⟩
          repeat walk_at "w"
          refine ⟨got_str, o_getn (i := 0) (c := sg p.1) (by rfl) (by walk_at "sz") ?_⟩
          repeat walk_at "w"
          have fadd := fn_add b (sS p.2) ([p].map fun p => sS p.1) sp5.srt sp5.enc.rdn (by have := sp5.len; simp; omega) (fun u => Nat.le_trans (sp5.sz u) (by omega))
          refine call_fn (k := 44) (Room.le room (by decide)) (Fn.mono fadd fun r σ11 q => ?_)
          obtain ⟨rfl, F', hs', hl'⟩ := q
          obtain ⟨sp8, fm8⟩ := sp5.add fm5 (v := sS p.2) (P := [p]) (inS p hpT).2 (fun q hq => by
            obtain rfl := List.mem_singleton.mp hq
            exact ⟨hpT, rfl, (inS q hpT).1⟩) hs' hl'
          have tk : ∀ y, y ∈ O.take (i + 1) ↔ y ∈ O.take i ∨ y = p := fun y => by rw [List.take_add_one, hpi]; simp
          repeat walk_at "w"
          refine ⟨F', _, _, h1, fm8, hl'.2 _ _ hS2 hFS2, (fun f => by
            rcases hl'.1 _ f with f | f
            · exact hFS2 f
            · rw [hS2] at f; cases f), sp8.mono (by simp; omega), fun q hq h => List.mem_append_left _ (hP2 q hq h), fun q hq => ?_, fun c hc => ?_⟩
          · rcases (tk q).mp hq with h | rfl
            · exact List.mem_append_left _ (hO2 q h)
            · exact List.mem_append_right _ (by simp)
          · rw [add_names]; exact .inl (hN2 c hc)
        · rintro m₂ σ7 ⟨F2, g2, E2, h1, fm5, hS2, hFS2, sp5, hP2, hO2, hN2⟩
          rw [List.length_map, List.take_length] at hO2
          rw [List.length_map] at sp5
          have hEall : ∀ p ∈ T, ev p ∈ E2 := fun p hp => by
            rcases hcov p hp with h | h
            · exact hP2 p h (hTm p hp).2.2
            · exact hO2 p h
          refine s_cons ?_
          refine s_try hfr ?_
          repeat walk_at "w"
          obtain ⟨A, hAx, hsA, hAF⟩ := id sp5.srt
          have hclo : ∀ v ∈ g2.names, ∀ u ∈ g2.su v, u ∈ g2.names := fun v hv u hu => by
            rw [(sp5.enc "").su v hv] at hu
            obtain ⟨e, he, rfl⟩ := List.mem_map.mp hu
            exact ((sp5.enc "").mem e ((List.mem_filter.mp he).1)).2
          have hin : InstS σ7 x A.dx 154 (A.attrs g2) := by rw [← hAx]; exact hsA.inst
          refine a_meth (C := Cx.tried (cx_lor w h₀ Ar L0) _ _ _) (K := K1 w) b.X hin (f := 109) (by rfl) ?_ (by rfl) (by rfl) (by rfl)
          repeat walk_at "w"
          have hprep := fn_prep b sp5.srt sp5.enc.rdn hclo (by have := sp5.len; omega) (fun v hv => Nat.le_trans (sp5.sz v) (by omega))
          refine call_fnE (k := 44) (Room.le room (by decide)) (Fn.monoE hprep (fun r σ8 q => ?_) fun r σ8 q => ?_)
          · obtain ⟨F8, rfl, acy, hs8, hl8⟩ := q
            have fm8 := fm5.left (fun a f => (sp5.off a f).1) hl8.2
            have hD8 := hl8.2 _ _ sp5.hd (fun f => (sp5.off _ f).2 rfl)
            repeat walk_at "w"
            refine ⟨by walk_at "sz", fun W hW => ?_⟩
            refine put_cell (c := L0 + 1 + 4) (v₀ := none) (by rfl) ((fm8.fresh hW _).cl 4 _ rfl) ?_
            have fmW := (fm8.fresh hW (.list [])).put (i := 4) (by decide) (.ref W)
            have hWn := fm8.dom hW
            have hsu2 : ∀ u ∈ g2.names, g2.su u = (E2.filter fun e => decide (e.1 = u)).map (·.2) := (sp5.enc "").su
            have hmem2 : ∀ e ∈ E2, e.1 ∈ g2.names ∧ e.2 ∈ g2.names := (sp5.enc "").mem
            have hWc := fm8.ne hWn
            have hWD : W ≠ D := fun q => by rw [q, hD8] at hW; cases hW
            have rd8 : Rd x D W σ3 ((σ8.upd W (.list [])).upd (L0 + 1 + 4) (.cell (some (.ref W)))) (fun a => F8 a ∧ σ8 a ≠ none) g2.prep T [] := by
              have r0 : Rd x D W σ3 (σ8.upd W (.list [])) (fun a => F8 a ∧ σ8 a ≠ none) g2.prep T [] := by
                refine ⟨upd_fresh hD8 hW, Sto.upd_same _ _ _, hs8.tight.sup fun a y e => upd_fresh e hW, fun a f => ?_, hWn, hWD⟩
                refine ⟨?_, ?_, fun q => f.2 (by rw [q]; exact hW)⟩
                · rcases hl8.1 a f.1 with f | f
                  · exact (sp5.off a f).1
                  · exact fm5.dom f
                · rcases hl8.1 a f.1 with f | f
                  · exact (sp5.off a f).2
                  · intro q; rw [q, sp5.hd] at f; cases f
              exact r0.cell (fm8.fresh hW (.list [])) hD (i := 4) (by decide) _
            generalize Sto.upd (Sto.upd σ8 W _) (L0 + 1 + 4) _ = σ9 at fmW rd8 ⊢
            obtain ⟨rs0, kn0⟩ := Kn.first sp5.enc sp5.srt.nod
            have cLeft := fmW.cl 0 _ rfl
            refine s_cons ?_
            refine s_for ?_
            repeat walk_at "w"
            refine ⟨(ls.map sS).map sv, fun σ' => σ' l = some (.list ((ls.map sS).map sv)), LorC ls x D W l σ3 L0 T g2 E2,
              iters_list, ⟨_, _, _, _, [], rs0, h1, fmW, rd8, kn0, .inl (Nat.zero_le _)⟩, fun i m σ' h => by obtain ⟨_, _, _, _, _, _, _, f, _⟩ := h; exact f.keep _ _ hl0 hla, ?_, ?_⟩
            · rintro i v m₁ σ11 hv ⟨F, g, c2', c5, row, rr, h1, fmA, rdA, kn, hfull⟩
              rw [List.getElem?_map, List.getElem?_map, Option.map_map, Option.map_eq_some_iff] at hv
              obtain ⟨c, hci, hve⟩ := hv
              have hve : v = sv (sS c) := hve.symm
              subst hve
              have hcl := List.mem_of_getElem? hci
              refine put_cell (c := L0 + 1 + 2) (by rfl) (fmA.cl 2 _ rfl) ?_
              have fmB := fmA.put (i := 2) (by decide) (sv (sS c))
              have rdB := rdA.cell fmA hD (i := 2) (by decide) (.cell (some (sv (sS c))))
              generalize Sto.upd σ11 (L0 + 1 + 2) _ = σ12 at fmB rdB ⊢
              repeat walk_at "w"
              obtain ⟨A, hAx, hsA, hAF⟩ := id rdB.srt
              rw [← hAx]
              refine a_meth X hsA.inst (by rfl) ?_ (by rfl) (by rfl) (by rfl)
              rw [hAx]
              repeat walk_at "w"
              have hrr : rr.length ≤ 3 := by
                have := len_sub kn.rnod (fun v hv => ((kn.rmem v).mp hv).1)
                have := sp5.len
                omega
              have hgr := fn_getr b rdB.srt kn.rd (fun v hv => by rw [kn.hn]; exact ((kn.rmem v).mp hv).1) (by omega)
              refine call_fn (k := 44) (Room.le room (by decide)) (Fn.mono hgr fun r σ13 q => ?_)
              obtain ⟨t, F', rfl, ht, htn, htF, hsC, hlC⟩ := q
              obtain ⟨rdC, fmC⟩ := rdB.left fmB hsC hlC
              have cTold := fmC.cl 1 _ rfl
              have cRow := fmC.cl 4 _ rfl
              repeat walk_at "w"
              refine v_comp (cl := [(("row" : Str), L0 + 1 + 4)]) (by rfl) ?_
              repeat walk_at "w"
              refine ⟨T.map fun p => sv (rv p), fun σ' => σ' D = some (.list (T.map fun p => sv (rv p))), fun j acc σ' => σ' = σ13 ∧ acc = ((T.take j).filter (fun p => !decide (sS p.1 ∈ row))).map fun p => sv (sS p.2), iters_list, by walk_at "sz", ⟨rfl, rfl⟩, fun j acc σ' h => by rw [h.1]; exact rdC.hd, ?_, ?_⟩
              · rintro Cl j v acc σ' mc hv ⟨hσ', rfl⟩ hacc
                subst hσ'
                rw [List.getElem?_map, Option.map_eq_some_iff] at hv
                obtain ⟨p, hpj, rfl⟩ := hv
                have tk : (T.take (j + 1)).filter (fun p => !decide (sS p.1 ∈ row)) = (T.take j).filter (fun p => !decide (sS p.1 ∈ row)) ++ (if sS p.1 ∈ row then [] else [p]) := by
                  rw [List.take_add_one, hpj, List.filter_append]
                  by_cases q : sS p.1 ∈ row <;> simp only [Option.toList, List.filter_cons, List.filter_nil, q, decide_true, decide_false, Bool.not_true, Bool.not_false, if_true, if_false, Bool.false_eq_true]
                refine ifs_one ?_
                repeat walk_at "w"
                refine ⟨got_str, o_getn (i := 0) (c := sg p.1) (by rfl) (by walk_at "sz") ?_⟩
                repeat walk_at "w"
                refine o_notinl rdC.hw ?_
                repeat walk_at "w"
                by_cases q : sS p.1 ∈ row
                · refine if_f (by simp [q]) ?_
                  refine ⟨rfl, ?_⟩
                  rw [tk, if_pos q, List.append_nil]
                · refine if_t (by simp [q]) ?_
                  repeat walk_at "w"
                  refine ⟨got_str, o_getn (i := 1) (c := sg p.2) (by rfl) (by walk_at "sz") ?_⟩
                  refine ⟨rfl, ?_⟩
                  rw [tk, if_neg q, List.map_append]; rfl
              · rintro acc σ' ⟨hσ', rfl⟩ H hH
                subst hσ'
                rw [List.length_map, List.take_length]
                have eH : ((T.filter fun p => !decide (sS p.1 ∈ row)).map fun p => sv (sS p.2)) = ((T.filter fun p => !decide (sS p.1 ∈ row)).map fun p => sS p.2).map sv := by rw [List.map_map]; rfl
                rw [eH]
                have hHm : ∀ v, v ∈ ((T.filter fun p => !decide (sS p.1 ∈ row)).map fun p => sS p.2) ↔ ∃ p ∈ T, sS p.1 ∉ row ∧ sS p.2 = v := fun v => by
                  rw [List.mem_map]
                  constructor
                  · rintro ⟨p, hp, e⟩
                    obtain ⟨h1, h2⟩ := List.mem_filter.mp hp
                    exact ⟨p, h1, by simpa using h2, e⟩
                  · rintro ⟨p, h1, h2, e⟩
                    exact ⟨p, List.mem_filter.mpr ⟨h1, by simpa using h2⟩, e⟩
                generalize ((T.filter fun p => !decide (sS p.1 ∈ row)).map fun p => sS p.2) = HL at hHm ⊢
                have fmD0 := fmC.fresh hH (.list (HL.map sv))
                have hHne := fmC.ne (fmC.dom hH)
                have htne := fmB.ne (fmB.dom htn)
                refine put_cell (c := L0 + 1 + 5) (by rfl) (fmD0.cl 5 _ rfl) ?_
                have fmD := fmD0.put (i := 5) (by decide) (.ref H)
                have rdD := (rdC.sup (fun a y e => upd_fresh e hH (w := .list (HL.map sv)))).cell fmD0 hD (i := 5) (by decide) (.cell (some (.ref H)))
                have ht2 : ((σ'.upd H (.list (HL.map sv))).upd (L0 + 1 + 5) (.cell (some (.ref H)))) t = some (.tup (rr.map sv)) := by rw [Sto.upd_ne (htne 5 (by decide))]; exact upd_fresh ht hH
                have hH2 : ((σ'.upd H (.list (HL.map sv))).upd (L0 + 1 + 5) (.cell (some (.ref H)))) H = some (.list (HL.map sv)) := by rw [Sto.upd_ne (hHne 5 (by decide)), Sto.upd_same]
                generalize Sto.upd (Sto.upd σ' H _) (L0 + 1 + 5) _ = σ14 at fmD rdD ht2 hH2 ⊢
                have cLeft := fmD.cl 0 _ rfl
                have cRow := fmD.cl 4 _ rfl
                have cHeld := fmD.cl 5 _ rfl
                have hl14 : σ14 l = some (.list ((ls.map sS).map sv)) := fmD.keep _ _ hl0 hla
                repeat walk_at "w"
                refine s_asgcomp (cl := [("row", L0 + 1 + 4), ("held", L0 + 1 + 5)]) (by rfl) ?_
                repeat walk_at "w"
                refine ⟨(ls.map sS).map sv, fun σ' => σ' l = some (.list ((ls.map sS).map sv)), fun j acc σ' => σ' = σ14 ∧ acc = (((ls.map sS).take j).filter fun v => !decide (v ∈ row) && !decide (v ∈ HL)).map sv, iters_list, by rw [List.length_map, List.length_map, sizeLine_eq]; omega, ⟨rfl, rfl⟩, fun j acc σ' h => by rw [h.1]; exact hl14, ?_, ?_⟩
                · rintro Cl j v acc σ' mc hv ⟨h14, rfl⟩ hacc
                  subst h14
                  rw [List.getElem?_map, Option.map_eq_some_iff] at hv
                  obtain ⟨p, hpj, rfl⟩ := hv
                  have tk : ((ls.map sS).take (j + 1)).filter (fun v => !decide (v ∈ row) && !decide (v ∈ HL)) = ((ls.map sS).take j).filter (fun v => !decide (v ∈ row) && !decide (v ∈ HL)) ++ (if p ∈ row then [] else if p ∈ HL then [] else [p]) := by
                    rw [List.take_add_one, hpj, List.filter_append]
                    by_cases q1 : p ∈ row <;> by_cases q2 : p ∈ HL <;> simp only [Option.toList, List.filter_cons, List.filter_nil, q1, q2, decide_true, decide_false, Bool.not_true, Bool.not_false, Bool.and_true, Bool.and_false, if_true, if_false, Bool.false_eq_true]
                  refine ifs_one ?_
                  repeat walk_at "w"
                  refine o_notinl rdD.hw ?_
                  repeat walk_at "w"
                  by_cases q1 : p ∈ row
                  · refine if_f (by simp [q1]) ?_
                    repeat walk_at "w"
                    refine ⟨rfl, ?_⟩
                    rw [tk, if_pos q1, List.append_nil]
                  · refine if_t (by simp [q1]) ?_
                    repeat walk_at "w"
                    refine o_notinl hH2 ?_
                    repeat walk_at "w"
                    by_cases q2 : p ∈ HL
                    · refine if_f (by simp [q2]) ?_
                      repeat walk_at "w"
                      refine ⟨rfl, ?_⟩
                      rw [tk, if_neg q1, if_pos q2, List.append_nil]
                    · refine if_t (by simp [q2]) ?_
                      repeat walk_at "w"
                      refine ⟨rfl, ?_⟩
                      rw [tk, if_neg q1, if_neg q2, List.map_append]; rfl
                · rintro acc σ' ⟨h14, rfl⟩ Fr hFr
                  subst h14
                  rw [List.length_map, List.take_length]
                  have hFm : ∀ v, v ∈ ((ls.map sS).filter fun v => !decide (v ∈ row) && !decide (v ∈ HL)) ↔ v ∈ ls.map sS ∧ v ∉ row ∧ v ∉ HL := fun v => by
                    rw [List.mem_filter]; simp
                  have hFn : ((ls.map sS).filter fun v => !decide (v ∈ row) && !decide (v ∈ HL)).Nodup := hlsn.filter _
                  generalize ((ls.map sS).filter fun v => !decide (v ∈ row) && !decide (v ∈ HL)) = FR at hFm hFn ⊢
                  have hnm : ∀ v, v ∈ g2.names ↔ v ∈ ls.map sS := fun v => ⟨sp5.nm v, fun h => by
                    obtain ⟨c, hc, rfl⟩ := List.mem_map.mp h
                    exact hN2 c hc⟩
                  have hsame : ∀ v, v ∈ rr ↔ v ∈ FR := fun v => by
                    rw [kn.rmem, hFm, hnm, hHm]
                    constructor
                    · rintro ⟨h1, h2, h3⟩
                      refine ⟨h1, h2, ?_⟩
                      rintro ⟨p, hp, hq, rfl⟩
                      exact hq (h3 _ (hEall p hp) rfl)
                    · rintro ⟨h1, h2, h3⟩
                      refine ⟨h1, h2, fun e2 he2 h4 => ?_⟩
                      obtain ⟨p, hp, rfl⟩ := sp5.sub e2 he2
                      apply Classical.byContradiction
                      intro h5
                      exact h3 ⟨p, hp, h5, h4⟩
                  have hFl : FR.length ≤ 3 := by
                    have := len_sub hFn (fun v hv => ((hFm v).mp hv).1)
                    rw [List.length_map] at this
                    omega
                  have fmE := fmD.fresh hFr (.list (FR.map sv))
                  have rdE := rdD.sup (fun a y e => upd_fresh e hFr (w := .list (FR.map sv)))
                  have ht3 := upd_fresh ht2 hFr (w := .list (FR.map sv))
                  have hF3 : (σ'.upd Fr (.list (FR.map sv))) Fr = some (.list (FR.map sv)) := Sto.upd_same _ _ _
                  generalize Sto.upd σ' Fr _ = σ15 at fmE rdE ht3 hF3 ⊢
                  repeat walk_at "w"
                  refine c_isinst_tup ht3 ?_
                  repeat walk_at "w"
                  have hu : Ar.units < cLine := by have := room.2.1; unfold cLine; omega
                  refine if_f rfl ?_
                  repeat walk_at "w"
                  refine c_sorted (xs := rr) (.inr ht3) (by omega) fun Y1 ys1 hY1 pm1 so1 => ?_
                  have fmF := fmE.fresh hY1 (.list (ys1.map sv))
                  have rdF := rdE.sup (fun a y e => upd_fresh e hY1 (w := .list (ys1.map sv)))
                  have ht4 := upd_fresh ht3 hY1 (w := .list (ys1.map sv))
                  have hF4 := upd_fresh hF3 hY1 (w := .list (ys1.map sv))
                  have hy1 : (σ15.upd Y1 (.list (ys1.map sv))) Y1 = some (.list (ys1.map sv)) := Sto.upd_same _ _ _
                  generalize Sto.upd σ15 Y1 _ = σ16 at fmF rdF ht4 hF4 hy1 ⊢
                  repeat walk_at "w"
                  refine c_sorted (xs := FR) (.inl hF4) (by omega) fun Y2 ys2 hY2 pm2 so2 => ?_
                  have fmG := fmF.fresh hY2 (.list (ys2.map sv))
                  have rdG := rdF.sup (fun a y e => upd_fresh e hY2 (w := .list (ys2.map sv)))
                  have ht5 := upd_fresh ht4 hY2 (w := .list (ys2.map sv))
                  have hy1' := upd_fresh hy1 hY2 (w := .list (ys2.map sv))
                  have hy2 : (σ16.upd Y2 (.list (ys2.map sv))) Y2 = some (.list (ys2.map sv)) := Sto.upd_same _ _ _
                  generalize Sto.upd σ16 Y2 _ = σ17 at fmG rdG ht5 hy1' hy2 ⊢
                  have heq : ys1 = ys2 := sorted_same (pm1.nodup_iff.mpr kn.rnod) (pm2.nodup_iff.mpr hFn) (fun v hv => by
                    obtain ⟨c, hc, e⟩ := List.mem_map.mp ((hFm v).mp ((hsame v).mp (pm1.mem_iff.mp hv))).1
                    exact ⟨c, hls c hc, e.symm⟩) (fun v => by rw [pm1.mem_iff, pm2.mem_iff]; exact hsame v) so1 so2
                  repeat walk_at "w"
                  refine o_nels hu hy1' hy2 ?_
                  repeat walk_at "w"
                  refine if_f (by simp [heq]) ?_
                  repeat walk_at "w"
                  have cRow := fmG.cl 4 _ rfl
                  repeat walk_at "w"
                  refine m_list rdG.hw ?_ PySem.F.slot_list_extend
                  repeat walk_at "w"
                  have hrl : row.length ≤ 3 := by
                    have := len_sub kn.nod kn.sub
                    have := sp5.len
                    omega
                  refine c_extendt rdG.hw ht5 (by rw [List.length_map, List.length_map]; omega) ?_
                  have htW : t ≠ W := fun q => by rw [q, rdB.hw] at htn; cases htn
                  have fmH := fmG.turn rdG.wn (.list ((row ++ rr).map sv))
                  have rdH := rdG.ext (row ++ rr)
                  have ht6 : (σ17.upd W (.list ((row ++ rr).map sv))) t = some (.tup (rr.map sv)) := by rw [Sto.upd_ne htW]; exact ht5
                  rw [← List.map_append]
                  generalize Sto.upd σ17 W _ = σ18 at fmH rdH ht6 ⊢
                  repeat walk_at "w"
                  obtain ⟨A2, hAx2, hsA2, hAF2⟩ := id rdH.srt
                  refine v_methS ?_
                  repeat walk_at "w"
                  rw [← hAx2]
                  refine a_bmeth X hsA2.inst (f := 137) (by rfl) (fun M hM => ?_) (by rfl) (by rfl) (by rfl) (by rfl) (by kernel_rfl) (by kernel_rfl) (by rfl)
                  rw [hAx2]
                  refine ⟨M, rfl, ?_⟩
                  have fmI := fmH.fresh hM (.raw (methodObj (.ref 137) (.ref x)))
                  have rdI := rdH.sup (fun a y e => upd_fresh e hM (w := .raw (methodObj (.ref 137) (.ref x))))
                  have ht7 := upd_fresh ht6 hM (w := .raw (methodObj (.ref 137) (.ref x)))
                  have hM1 : (σ18.upd M (.raw (methodObj (.ref 137) (.ref x)))) M = some (.raw (methodObj (.ref 137) (.ref x))) := Sto.upd_same _ _ _
                  generalize Sto.upd σ18 M _ = σ19 at fmI rdI ht7 hM1 ⊢
                  refine cw_lone ?_
                  repeat walk_at "w"
                  refine ⟨t, rr.map sv, rfl, .inr ht7, by walk_at "sz", keeps_bm hM1 (b.X 137 _ (ob_done w).2) (fd_done w).2, call_bm (k := 44) (Room.le room (by decide)) hM1 rfl ?_⟩
                  obtain ⟨hround, rr', kn'⟩ := kn.round hsu2 hmem2
                  have hsum : ∀ l : List Str, (l.map fun v => (g2.su v).length).sum ≤ l.length * 252 := fun l => by
                    induction l with
                    | nil => simp
                    | cons a l ih =>
                      have h1 := sp5.sz a
                      have h2 : (g2.su a).length ≤ 252 := by omega
                      simp only [List.map_cons, List.sum_cons, List.length_cons]
                      omega
                  have hmn : (g.out rr).names = g2.names := kn.mid.hn
                  have hms : (g.out rr).su = g2.su := kn.mid.hs
                  have hsz : ∀ v, (g2.su v).length ≤ 252 := fun v => by have := sp5.sz v; omega
                  have hdone := fn_done b rr rdI.srt (rs0 := []) rfl hround (fun v hv s hs => by
                    rw [hmn] at hv ⊢
                    rw [hms] at hs
                    exact hclo v hv s hs) (by omega) (fun v => by rw [hms]; have := hsz v; omega) (by
                    rw [hms]
                    have h1 : (rr.map fun v => (g2.su v).length).sum ≤ rr.length * 252 := hsum rr
                    rw [List.length_nil]
                    omega)
                  refine Fn.mono hdone fun r σ20 q => ?_
                  obtain ⟨rfl, F3, hsJ, hlJ⟩ := q
                  obtain ⟨rdJ, fmJ⟩ := rdI.left fmI hsJ hlJ
                  repeat walk_at "w"
                  refine ⟨F3, _, _, _, row ++ rr, rr', h1, fmJ, rdJ, kn', ?_⟩
                  by_cases hall : ∀ v ∈ g2.names, v ∈ row
                  · exact .inr fun v hv => List.mem_append_left _ (hall v hv)
                  · rcases hfull with hfull | hfull
                    · left
                      obtain ⟨v, hv⟩ := Classical.not_forall.mp hall
                      obtain ⟨hv1, hv2⟩ := Classical.not_imp.mp hv
                      have := kn.progress hsu2 hmem2 acy hv1 hv2
                      have := List.length_pos_iff.mpr this
                      rw [List.length_append]
                      omega
                    · exact absurd hfull hall
            · rintro m₁ σ11 ⟨F, g, c2', c5, row, rr, h1, fmA, rdA, kn, hfull⟩
              have cRow := fmA.cl 4 _ rfl
              have hall : ∀ v ∈ g2.names, v ∈ row := by
                rcases hfull with hfull | hfull
                · refine full_of kn.nod kn.sub ?_
                  have := sp5.len
                  rw [List.length_map, List.length_map] at hfull
                  omega
                · exact hfull
              repeat walk_at "w"
              intro v' hv'
              refine ⟨fun a y e => fmA.keep _ _ (hσ a y e).1 (hσ a y e).2, .inr ⟨W, row, hv', rdA.hw, kn.nod, fun v => ⟨fun h => sp5.nm v (kn.sub v h), fun h => hall v ?_⟩, fun p hp => ?_⟩⟩
              · obtain ⟨c, hc, rfl⟩ := List.mem_map.mp h
                exact hN2 c hc
              · exact kn.bef _ (hEall p hp) (hall _ (by
                  obtain ⟨c, hc, e⟩ := List.mem_map.mp (inS p hp).2
                  show sS p.2 ∈ g2.names
                  rw [← e]; exact hN2 c hc))
          · obtain ⟨F8, e, a0, c, rfl, hex, ring, hs8, hl8, hen⟩ := q
            obtain ⟨DC, hDC⟩ := cls_cycle b
            have fm8 := (fm5.left (fun a f => (sp5.off a f).1) hl8.2).drop (fm5.dom hen)
            have hs9 := hs8.drop hex
            have hD9 : σ8.drop e D = some (.list (T.map fun p => sv (rv p))) := by
              rw [Sto.drop_ne (fun q => by rw [← q, sp5.hd] at hen; cases hen)]
              exact hl8.2 _ _ sp5.hd (fun f => (sp5.off _ f).2 rfl)
            refine ⟨e, true, _, a0, rfl, by unfold hv; show ExcIn σ8 e true _ a0 (Ar.handled.getD .none); rw [hh]; exact hex, catches_cls hcyc hDC, ?_⟩
            generalize σ8.drop e = σ9 at fm8 hs9 hD9 ⊢
            refine s_cons ?_
            repeat walk_at "w"
            obtain ⟨A9, hA9, hsA9, _⟩ := id hs9
            have hin9 : InstS σ9 x A9.dx 154 (A9.attrs g2.prep) := by rw [← hA9]; exact hsA9.inst
            refine a_meth (C := Cx.handling (cx_lor w h₀ Ar L0) e) (K := K1 w) b.X hin9 (f := 144) (by rfl) ?_ (by rfl) (by rfl) (by rfl)
            repeat walk_at "w"
            have room2 : Room (Ar.mark (some (.ref e))) 2 := ⟨(Room.le room (show 2 ≤ 44 by decide)).1, (Room.le room (show 2 ≤ 44 by decide)).2.1, fun q => absurd q (by decide)⟩
            refine call_fn (k := 2) room2 (Fn.mono (fn_fcycle b hs9 hclo (by have := sp5.len; show g2.names.length ≤ 60; omega) (fun v hv => Nat.le_trans (sp5.sz v) (by omega))) fun r σ10 q => ?_)
            obtain ⟨k10, q⟩ := q
            rcases q with ⟨_, acy⟩ | ⟨R, cr, n, rfl, hRn, hRl, ring2⟩
            · exact absurd acy ring.not_acy
            have fm10 := (fm8.sup k10).put (i := 3) (by decide) (.ref R)
            have hRne : ∀ i : Nat, i < 6 → R ≠ L0 + 1 + i := fm8.ne (fm8.dom hRn)
            refine put_cell (c := L0 + 1 + 3) (v₀ := none) (by rfl) ((fm8.sup k10).cl 3 _ rfl) ?_
            have hR1 : (σ10.upd (L0 + 1 + 3) (.cell (some (.ref R)))) R = some (.list (((n :: cr) ++ [n]).map sv)) := by rw [Sto.upd_ne (hRne 3 (by decide))]; exact hRl
            have hD10 : (σ10.upd (L0 + 1 + 3) (.cell (some (.ref R)))) D = some (.list (T.map fun p => sv (rv p))) := by rw [Sto.upd_ne (hDn 3 (by decide))]; exact k10 _ _ hD9
            generalize Sto.upd σ10 (L0 + 1 + 3) _ = σ11 at fm10 hR1 hD10 ⊢
            have cRing := fm10.cl 3 _ rfl
            have cTold := fm10.cl 1 _ rfl
            have cLeft := fm10.cl 0 _ rfl
            have hcrl : (n :: cr).length ≤ 3 := by
              obtain ⟨n', r', he, hn1, hm1, _⟩ := ring2
              have := len_sub hn1 (fun v hv => sp5.nm v (hm1 v hv))
              rw [List.length_map] at this
              omega
            repeat walk_at "w"
            have hsu2 : ∀ u ∈ g2.names, g2.su u = (E2.filter fun e => decide (e.1 = u)).map (·.2) := (sp5.enc "").su
            refine s_asgcomp (cl := [(("told" : Str), L0 + 1 + 1), ("ring", L0 + 1 + 3)]) (by rfl) ?_
            repeat walk_at "w"
            have hlenR : (((n :: cr) ++ [n]).map sv).length = (n :: cr).length + 1 := by simp
            refine c_len_list hR1 (by rw [hlenR, sizeLine_eq]; omega) ?_
            repeat walk_at "w"
            refine c_range1 fun G oG hG hoG => ?_
            have hN : Builtin.Range.rangeSize 0 (((((n :: cr) ++ [n]).map sv).length : Int) - 1) 1 = (n :: cr).length := by
              rw [hlenR]; simp [Builtin.Range.rangeSize]
            have hsm : Builtin.Range.small 0 (((((n :: cr) ++ [n]).map sv).length : Int) - 1) 1 = true := by
              rw [hlenR]
              have : (((n :: cr).length + 1 : Nat) : Int) - 1 = ((n :: cr).length : Int) := by omega
              rw [this]
              exact small01 (by omega)
            refine ⟨_, fun σ' => σ' G = some (.raw oG), fun i acc σ' => σ' = σ11.upd G (.raw oG) ∧ acc = [], iters_range (n := (n :: cr).length) hoG hsm hN, by rw [List.length_map, List.length_range, sizeLine_eq]; omega, ⟨rfl, rfl⟩, fun i acc σ' h => by rw [h.1]; exact Sto.upd_same _ _ _, ?_, ?_⟩
            · rintro Cl i v acc σ12 mc hv ⟨h12, rfl⟩ hacc
              rw [List.getElem?_map, Option.map_eq_some_iff] at hv
              obtain ⟨j', hj, rfl⟩ := hv
              obtain ⟨hjl, hj⟩ := List.getElem?_eq_some_iff.mp hj
              rw [List.length_range] at hjl
              rw [List.getElem_range] at hj
              subst hj
              have ej : nv ((0 : Int) + (i : Int) * 1) = tv i := by simp
              rw [ej]
              obtain ⟨va, hva⟩ : ∃ va, ((n :: cr) ++ [n])[i]? = some va := ⟨_, List.getElem?_eq_getElem (by simp at hjl ⊢; omega)⟩
              obtain ⟨vb, hvb⟩ : ∃ vb, ((n :: cr) ++ [n])[i + 1]? = some vb := ⟨_, List.getElem?_eq_getElem (by simp at hjl ⊢; omega)⟩
              have hR12 : σ12 R = some (.list (((n :: cr) ++ [n]).map sv)) := by rw [h12]; exact upd_fresh hR1 hG
              have hD12 : σ12 D = some (.list (T.map fun p => sv (rv p))) := by rw [h12]; exact upd_fresh hD10 hG
              have cRing : σ12 (L0 + 1 + 3) = some (.cell (some (.ref R))) := by rw [h12]; exact upd_fresh cRing hG
              have cTold : σ12 (L0 + 1 + 1) = some (.cell (some (.ref D))) := by rw [h12]; exact upd_fresh cTold hG
              have hmem : Mine.S (L va ++ L vb) ∈ T.map rv := by
                obtain ⟨n', r', he, hn1, hm1, hpath⟩ := ring2
                have hpath : Path g2.su ((n :: cr) ++ [n']) := hpath
                have en : n' = n := by simp only [List.cons.injEq] at he; exact he.1.symm
                rw [en] at hpath
                have hvm : va ∈ g2.names := hm1 va (by
                  rw [List.getElem?_append_left (by simpa using hjl)] at hva
                  exact List.mem_of_getElem? hva)
                have h1 := Path.at hpath hva hvb
                rw [hsu2 va hvm] at h1
                obtain ⟨e2, he2, e2b⟩ := List.mem_map.mp h1
                obtain ⟨he3, he4⟩ := List.mem_filter.mp he2
                obtain ⟨p, hp, rfl⟩ := sp5.sub e2 he3
                have he4 : sS p.1 = va := of_decide_eq_true he4
                have e2b : sS p.2 = vb := e2b
                refine List.mem_map.mpr ⟨p, hp, ?_⟩
                rw [← he4, ← e2b]; rfl
              refine ifs_one ?_
              repeat walk_at "w"
              refine ⟨got_list hR12, o_getl (i := i) (v := sv va) hR12 (by simp at hjl hcrl; omega) (by rw [List.getElem?_map, hva]; rfl) ?_⟩
              repeat walk_at "w"
              refine ⟨got_list hR12, o_getl (i := i + 1) (v := sv vb) hR12 (by simp at hjl hcrl; omega) (by rw [List.getElem?_map, hvb]; rfl) ?_⟩
              have vlen : ∀ {j : Nat} {v : Str}, ((n :: cr) ++ [n])[j]? = some v → (L v).length = 1 := fun {j v} h => by
                obtain ⟨n', r', he, hn1, hm1, hpath⟩ := ring2
                have hv : v ∈ n :: cr := by
                  rcases List.mem_append.mp (List.mem_of_getElem? h) with h | h
                  · exact h
                  · rw [List.mem_singleton.mp h]; exact .head _
                obtain ⟨c, hc, rfl⟩ := List.mem_map.mp (sp5.nm v (hm1 v hv))
                rfl
              have v1 := vlen hva
              have v2 := vlen hvb
              refine o_adds (by rw [v1, v2, sizeLine_eq]; omega) ?_
              repeat walk_at "w"
              refine o_notinl (xs := T.map rv) (by rw [List.map_map]; exact hD12) ?_
              repeat walk_at "w"
              refine if_f (by simp [hmem]) ?_
              exact ⟨h12, rfl⟩
            · rintro acc σ12 ⟨h12, rfl⟩ B hB
              have hR12 : σ12 R = some (.list (((n :: cr) ++ [n]).map sv)) := by rw [h12]; exact upd_fresh hR1 hG
              have fm12 := fm10.fresh hG (.raw oG)
              rw [← h12] at fm12
              have fm13 := fm12.fresh hB (.list [])
              have hR13 := upd_fresh hR12 hB (w := .list [])
              have hB13 : (σ12.upd B (.list [])) B = some (.list []) := Sto.upd_same _ _ _
              generalize Sto.upd σ12 B _ = σ13 at fm13 hR13 hB13 ⊢
              have cRing := fm13.cl 3 _ rfl
              have cLeft := fm13.cl 0 _ rfl
              have hl13 : σ13 l = some (.list ((ls.map sS).map sv)) := fm13.keep _ _ hl0 hla
              repeat walk_at "w"
              refine s_asgcomp (cl := [("ring", L0 + 1 + 3)]) (by rfl) ?_
              repeat walk_at "w"
              refine ⟨(ls.map sS).map sv, fun σ' => σ' l = some (.list ((ls.map sS).map sv)), fun i acc σ' => σ' = σ13 ∧ acc = (((ls.map sS).take i).filter fun v => decide (v ∈ (n :: cr) ++ [n])).map sv, iters_list, by rw [List.length_map, List.length_map, sizeLine_eq]; omega, ⟨rfl, rfl⟩, fun i acc σ' h => by rw [h.1]; exact hl13, ?_, ?_⟩
              · rintro Cl i v acc σ' mc hv ⟨h14, rfl⟩ hacc
                subst h14
                rw [List.getElem?_map, Option.map_eq_some_iff] at hv
                obtain ⟨p, hpi, rfl⟩ := hv
                have tk : ((ls.map sS).take (i + 1)).filter (fun v => decide (v ∈ (n :: cr) ++ [n])) = ((ls.map sS).take i).filter (fun v => decide (v ∈ (n :: cr) ++ [n])) ++ (if p ∈ (n :: cr) ++ [n] then [p] else []) := by
                  rw [List.take_add_one, hpi, List.filter_append]
                  by_cases q : p ∈ (n :: cr) ++ [n] <;> simp only [Option.toList, List.filter_cons, List.filter_nil, q, decide_true, decide_false, if_true, if_false, Bool.false_eq_true]
                refine ifs_one ?_
                repeat walk_at "w"
                refine o_inl hR13 ?_
                repeat walk_at "w"
                by_cases q : p ∈ (n :: cr) ++ [n]
                · refine if_t (by simpa using q) ?_
                  repeat walk_at "w"
                  refine ⟨rfl, ?_⟩
                  rw [tk, if_pos q, List.map_append]; rfl
                · refine if_f (by simpa using q) ?_
                  refine ⟨rfl, ?_⟩
                  rw [tk, if_neg q, List.append_nil]
              · rintro acc σ14 ⟨h14, rfl⟩ O2 hO2
                subst h14
                rw [List.length_map, List.take_length]
                have honce : ((ls.map sS).filter fun v => decide (v ∈ (n :: cr) ++ [n])).length = (n :: cr).length := by
                  obtain ⟨n', r', he, hn1, hm1, hpath⟩ := ring2
                  refine once_len hlsn hn1 (fun v hv => sp5.nm v (hm1 v hv)) _ fun v => ?_
                  rw [List.mem_append, List.mem_singleton]
                  exact ⟨fun h => h.elim id fun h => by rw [h]; exact .head _, .inl⟩
                generalize hOn : ((ls.map sS).filter fun v => decide (v ∈ (n :: cr) ++ [n])) = once at honce ⊢
                have fm15 := fm13.fresh hO2 (.list (once.map sv))
                have hR15 := upd_fresh hR13 hO2 (w := .list (once.map sv))
                have hB15 := upd_fresh hB13 hO2 (w := .list (once.map sv))
                have hO15 : (σ14.upd O2 (.list (once.map sv))) O2 = some (.list (once.map sv)) := Sto.upd_same _ _ _
                generalize Sto.upd σ14 O2 _ = σ15 at fm15 hR15 hB15 hO15 ⊢
                have cRing := fm15.cl 3 _ rfl
                repeat walk_at "w"
                refine ⟨by walk_at "sz", fun Z hZ => ?_⟩
                have hu : Ar.units < cLine := by have := room.2.1; unfold cLine; omega
                have fm16 := fm15.fresh hZ (.list [])
                have hR16 := upd_fresh hR15 hZ (w := .list [])
                have hO16 := upd_fresh hO15 hZ (w := .list [])
                have hB16 := upd_fresh hB15 hZ (w := .list [])
                have hZ16 : (σ15.upd Z (.list [])) Z = some (.list []) := Sto.upd_same _ _ _
                generalize Sto.upd σ15 Z _ = σ16 at fm16 hR16 hO16 hB16 hZ16 ⊢
                have cRing := fm16.cl 3 _ rfl
                refine o_eqnil hu hB16 hZ16 ?_
                repeat walk_at "w"
                refine if_t rfl ?_
                repeat walk_at "w"
                refine ⟨got_list hR16, o_getl (i := 0) (v := sv n) hR16 (by decide) rfl ?_⟩
                repeat walk_at "w"
                refine ⟨got_list hR16, o_getlast (vs := (n :: cr).map sv) (v := sv n) (by rw [hR16]; simp) (by rw [List.length_map]; omega) ?_⟩
                repeat walk_at "w"
                refine if_t (by simp) ?_
                repeat walk_at "w"
                refine c_len_list hR16 (by rw [hlenR, sizeLine_eq]; omega) ?_
                repeat walk_at "w"
                refine if_t (by
                  rw [List.length_map, honce, hlenR]
                  simp) ?_
                repeat walk_at "w"
                intro v' hv'
                refine ⟨fun a y e => fm16.keep _ _ (hσ a y e).1 (hσ a y e).2, .inl ⟨hv', ?_⟩⟩
                rintro ⟨pos, hpos⟩
                refine ring.no_pos ⟨pos, fun v hv u hu => ?_⟩
                rw [hsu2 v hv] at hu
                obtain ⟨e2, he2, rfl⟩ := List.mem_map.mp hu
                obtain ⟨he3, he4⟩ := List.mem_filter.mp he2
                obtain ⟨p, hp, rfl⟩ := sp5.sub e2 he3
                have he4 : sS p.1 = v := of_decide_eq_true he4
                rw [← he4]
                exact hpos p hp
end
section
noncomputable def tab_special (w : World) : {e : Array DictEntry // ∃ ep, (K1 w).lookup 172 = some { cls := .type "dict", data := .dict e ep }} := ⟨_, _, rfl⟩
theorem tab_ok (w : World) : intsOk (tab_special w).1 = true := by kernel_rfl
def esc (c : Nat) : Option Str := if c = 46 ∨ c = 124 then some (S [92, c]) else none
theorem tab_at {w : World} {c : Nat} (h : c = 34 ∨ c = 46 ∨ c = 124 ∨ c = 97) : (findBy Value.isInt (tab_special w).1 (c : Int)).map er = (esc c).map sv := by
  rcases h with rfl | rfl | rfl | rfl <;> kernel_rfl
noncomputable def ob_escape (w : World) : {o // (K1 w).lookup 182 = some o} := ⟨_, rfl⟩
noncomputable def fd_escape (w : World) : {fd // (ob_escape w).1.data = .func fd} := ⟨_, rfl⟩
noncomputable def bd_escape (w : World) : {b // (fd_escape w).1.body = .stmts b} := ⟨_, rfl⟩
noncomputable def cx_escape (w : World) (h₀ : Heap) (A : Around) (L : Addr) : Cx := ⟨prog1, w, h₀, A, callEnvC (fd_escape w).1 L 182, botE⟩
theorem fn_escape {w : World} {h₀ : Heap} (b : Bs w h₀) {σ : Sto} {c : Nat} (h : c = 34 ∨ c = 46 ∨ c = 124 ∨ c = 97) : Fn prog1 w h₀ 42 (.ref 182) [sv (S [c])] (fun r σ' => r = sv ((esc c).getD (S [c])) ∧ σ' = σ) botF σ := by
  refine fn_plain (o := (ob_escape w).1) (fd := (fd_escape w).1) (body := (bd_escape w).1) (names := [("pattern" : Str)]) (b.X 182 _ (ob_escape w).2) (fd_escape w).2 (bd_escape w).2 (by rfl) b.nolimit (b.code (c := 181) (by rfl) (by rfl) (by rfl)) ?_ (by rfl) (by intro _; rfl) ?_
  · intro vals hv
    obtain ⟨a, rfl, _⟩ := inv1 hv
    rfl
  · intro Ar L room hL
    show (cx_escape w h₀ Ar L).W (execs (bd_escape w).1 (cx_escape w h₀ Ar L).env) _ _ _
    have hisi : GV (cx_escape w h₀ Ar L).h₀ "isinstance" (.builtin "isinstance") := b.built (by rfl) (by rfl) (by decide)
    have hstr : GV (cx_escape w h₀ Ar L).h₀ "str" (.type "str") := b.built (by rfl) (by rfl) (by decide)
    have hmap : GV (cx_escape w h₀ Ar L).h₀ "_special_chars_map" (.ref 172) := b.glob (by rfl)
    refine s_cons ?_
    repeat walk_at "w"
    refine c_isinst_str ?_
    repeat walk_at "w"
    refine m_str ?_ PySem.F.slot_str_translate
    repeat walk_at "w"
    refine c_translate1 (y := esc c) (f := fun k => findBy Value.isInt (tab_special w).1 k) (by omega) (let ⟨_, e⟩ := (tab_special w).2; intTab (b.X _ _ e) (tab_ok w)) (by rfl) (room.2.2 (by decide)) (tab_at h) ?_ ?_
    · intro z hz
      unfold esc at hz
      split at hz
      · cases hz; rfl
      · cases hz
    · repeat walk_at "w"
      intro v' hv'
      exact ⟨hv', rfl⟩
end
section
def escS (c : Nat) : Str := (esc c).getD (S [c])
def pcs (star : Value) (acc : List Value) (c : Nat) : List Value := if c = 42 then (if acc.getLast? = some star then acc else acc ++ [star]) else acc ++ [sv (escS c)]
def pieces (star : Value) (l : List Nat) : List Value := l.foldl (pcs star) []
theorem pieces_snoc (star : Value) (l : List Nat) (c : Nat) : pieces star (l ++ [c]) = pcs star (pieces star l) c := by simp [pieces]
theorem pieces_len (star : Value) : ∀ (l : List Nat) (acc : List Value), (l.foldl (pcs star) acc).length ≤ acc.length + l.length
  | [], acc => Nat.le_refl _
  | c :: l, acc => by
    have := pieces_len star l (pcs star acc c)
    have h2 : (pcs star acc c).length ≤ acc.length + 1 := by
      unfold pcs
      split
      · split <;> simp
      · simp
    simp only [List.foldl_cons, List.length_cons]
    omega
theorem pieces_of (st : Addr) (l : List Nat) : ∀ v ∈ pieces (.ref st) l, v = .ref st ∨ ∃ x, v = sv x := by
  suffices h : ∀ (l : List Nat) (acc : List Value), (∀ v ∈ acc, v = .ref st ∨ ∃ x, v = sv x) → ∀ v ∈ l.foldl (pcs (.ref st)) acc, v = .ref st ∨ ∃ x, v = sv x from h l [] (fun v hv => by simp at hv)
  intro l
  induction l with
  | nil => exact fun acc h => h
  | cons c l ih =>
    intro acc h
    refine ih _ fun v hv => ?_
    unfold pcs at hv
    split at hv
    · split at hv
      · exact h v hv
      · rcases List.mem_append.mp hv with q | q
        · exact h v q
        · exact .inl (List.mem_singleton.mp q)
    · rcases List.mem_append.mp hv with q | q
      · exact h v q
      · exact .inr ⟨_, List.mem_singleton.mp q⟩
noncomputable def ob_trl (w : World) : {o // (K1 w).lookup 189 = some o} := ⟨_, rfl⟩
noncomputable def fd_trl (w : World) : {fd // (ob_trl w).1.data = .func fd} := ⟨_, rfl⟩
noncomputable def bd_trl (w : World) : {b // (fd_trl w).1.body = .stmts b} := ⟨_, rfl⟩
noncomputable def cx_trl (w : World) (h₀ : Heap) (A : Around) (L : Addr) : Cx := ⟨prog1, w, h₀, A, callEnvC (fd_trl w).1 L 189, botE⟩
inductive TrlSt (l : List Nat) (st R B : Addr) (σ : Sto) (k : Nat) (m' : Map) (σ' : Sto) : Prop
  | mk (i) (q1 : k = l.length - i) (q2 : i ≤ l.length) (q3 : m' (Str.ofString "pat") = some (sv (S l))) (q4 : m' (Str.ofString "STAR") = some (.ref st)) (q5 : m' (Str.ofString "res") = some (.ref R)) (q6 : m' (Str.ofString "add") = some (.ref B)) (q7 : m' (Str.ofString "i") = some (.int (i : Int) 0)) (q8 : m' (Str.ofString "n") = some (.int ((S l).length : Nat) 0)) (q9 : σ' B = some (.raw (boundObj R))) (q10 : σ' R = some (.list (pieces (.ref st) (l.take i)))) (q11 : ∀ a y, σ a = some y → σ' a = some y) : TrlSt l st R B σ k m' σ'
@[reducible] def TrlPost (l : List Nat) (st : Addr) (σ : Sto) (r : Value) (σ' : Sto) : Prop := ∃ R, r = .ref R ∧ σ R = none ∧ σ' R = some (.list (pieces (.ref st) l)) ∧ ∀ a y, σ a = some y → σ' a = some y
set_option maxHeartbeats 4000000 in
theorem fn_trl {w : World} {h₀ : Heap} (b : Bs w h₀) {σ : Sto} {l : List Nat} {st : Addr} (hst : σ st = some (.raw plainObj)) (hl : ∀ c ∈ l, c = 42 ∨ c = 34 ∨ c = 46 ∨ c = 124 ∨ c = 97) (hz : l.length ≤ 1000) :
    Fn prog1 w h₀ 44 (.ref 189) [sv (S l), .ref st, sv "."] (TrlPost l st σ) botF σ := by
  refine fn_plain (o := (ob_trl w).1) (fd := (fd_trl w).1) (body := (bd_trl w).1) (names := [("pat" : Str), "STAR", "QUESTION_MARK"]) (b.X 189 _ (ob_trl w).2) (fd_trl w).2 (bd_trl w).2 (by rfl) b.nolimit (b.code (c := 188) (by rfl) (by rfl) (by rfl)) ?_ (by rfl) (by intro _; rfl) ?_
  · intro vals hv
    obtain ⟨a, c, d, rfl, _, _, _⟩ := inv3 hv
    rfl
  · intro Ar L0 room hL
    show (cx_trl w h₀ Ar L0).W (execs (bd_trl w).1 (cx_trl w h₀ Ar L0).env) _ _ _
    have hh : Ar.handled = none := room.2.2 (by decide)
    have hlen := len_glob b
    have hesc : GV (cx_trl w h₀ Ar L0).h₀ "escape" (.ref 182) := b.glob (by rfl)
    refine s_cons ?_
    repeat walk_at "w"
    refine ⟨by walk_at "sz", fun R hR => ?_⟩
    repeat walk_at "w"
    refine a_append (Sto.upd_same _ _ _) fun B hB => ?_
    repeat walk_at "w"
    refine s_asgswap hh (x := "i") (y := "n") ?_
    repeat walk_at "w"
    refine ⟨by walk_at "sz", fun t ht => ?_⟩
    have hRB : R ≠ B := ne_of_none (Sto.upd_same σ R (.list [])) hB
    have hB0 : σ B = none := by rw [Sto.upd_ne (Ne.symm hRB)] at hB; exact hB
    have s1 : ∀ a y, σ a = some y → ((σ.upd R (.list [])).upd B (.raw (boundObj R))) a = some y := sup_upd (sup_upd (fun _ _ e => e) hR) hB0
    have s2 := sup_upd s1 (sup_none s1 ht) (w := .tup [.int 0 0, .int (S l).length 0])
    refine ⟨t, _, _, rfl, Sto.upd_same _ _ _, ?_⟩
    repeat walk_at "w"
    refine s_while (TrlSt l st R B σ) _
      ⟨0, rfl, Nat.zero_le _, rfl, rfl, rfl, rfl, rfl, rfl, upd_fresh (Sto.upd_same _ _ _) ht, upd_fresh (upd_fresh (Sto.upd_same _ _ _) hB) ht, s2⟩ ?_
    rintro n m₁ σ₁ ⟨i, rfl, hi, h1, h2, h3, h4, h5, h6, h7, h8, k1⟩
    repeat walk_at "w"
    have hpl := pieces_len (.ref st) (l.take i) []
    rw [List.length_take] at hpl
    have hpl : (pieces (.ref st) (l.take i)).length ≤ 1000 := by unfold pieces; simp at hpl; omega
    refine if_b (fun h => ?_) fun h => ?_
    · rw [decide_eq_true_eq, S_len] at h
      have hlt : i < l.length := by omega
      obtain ⟨c, hc⟩ : ∃ c, l[i]? = some c := ⟨_, List.getElem?_eq_getElem hlt⟩
      have htk : l.take (i + 1) = l.take i ++ [c] := by rw [List.take_add_one, hc]; rfl
      have hcs := hl c (List.mem_of_getElem? hc)
      refine s_cons ?_
      repeat walk_at "w"
      refine ⟨got_str, o_getn (c := c) hc (by walk_at "sz") ?_⟩
      repeat walk_at "w"
      refine if_b (fun hq => ?_) fun hq => ?_
      · rw [decide_eq_true_eq] at hq
        have hc42 : c = 42 := by have := S_inj (b := [42]) hq; simpa using this
        subst hc42
        have hps : pieces (.ref st) (l.take (i + 1)) = if (pieces (.ref st) (l.take i)).getLast? = some (.ref st) then pieces (.ref st) (l.take i) else pieces (.ref st) (l.take i) ++ [.ref st] := by rw [htk, pieces_snoc]; unfold pcs; rw [if_pos rfl]
        have hall := pieces_of st (l.take i)
        generalize pieces (.ref st) (l.take i) = P at h8 hpl hps hall
        have add : P.getLast? ≠ some (.ref st) → ∃ k, k < l.length - i ∧ ∃ i', k = l.length - i' ∧ i' ≤ l.length ∧ m₁ (Str.ofString "pat") = some (sv (S l)) ∧ m₁ (Str.ofString "STAR") = some (.ref st) ∧ m₁ (Str.ofString "res") = some (.ref R) ∧ m₁ (Str.ofString "add") = some (.ref B) ∧ ((i : Int) + 1 = (i' : Int)) ∧ m₁ (Str.ofString "n") = some (.int ((S l).length : Nat) 0) ∧
            (σ₁.upd R (.list (P ++ [.ref st]))) B = some (.raw (boundObj R)) ∧ (σ₁.upd R (.list (P ++ [.ref st]))) R = some (.list (pieces (.ref st) (l.take i'))) ∧ ∀ a y, σ a = some y → (σ₁.upd R (.list (P ++ [.ref st]))) a = some y := fun hg =>
          ⟨l.length - (i + 1), stepLt (by assumption), i + 1, rfl, hlt, h1, h2, h3, h4, by simp, h6, upd_keep h7 h8 (fun c => nomatch c), by rw [hps, if_neg hg]; exact Sto.upd_same _ _ _, sup_upd k1 hR⟩
        repeat walk_at "w"
        refine test_list h8 (by rw [sizeLine_eq]; omega) ?_
        by_cases hP : P = []
        · refine if_t (by simp [hP]) ?_
          repeat walk_at "w"
          refine ⟨keeps_bound h7, c_bound h7 h8 (by rw [sizeLine_eq]; omega) ?_⟩
          repeat walk_at "w"
          obtain ⟨k, hk, i', a1, a2, a3, a4, a5, a6, a7, a8, a9, a10, a11⟩ := add (by rw [hP]; simp)
          exact ⟨k, hk, i', a1, a2, a3, a4, a5, a6, congrArg some (congrArg (Value.int · 0) a7), a8, a9, a10, a11⟩
        · obtain ⟨P', v, hPv⟩ : ∃ P' v, P = P' ++ [v] := ⟨P.dropLast, P.getLast hP, (List.dropLast_concat_getLast hP).symm⟩
          refine if_f (by simp [hP]) ?_
          repeat walk_at "w"
          refine ⟨got_list h8, o_getlast (by rw [h8, hPv]) (by rw [hPv] at hpl; simp at hpl; omega) ?_⟩
          repeat walk_at "w"
          rcases hall v (by rw [hPv]; simp) with rfl | ⟨x, rfl⟩
          · refine o_isnot_self ?_
            repeat walk_at "w"
            exact ⟨l.length - (i + 1), stepLt (by assumption), i + 1, rfl, hlt, h1, h2, h3, h4, rfl, h6, h7, by rw [hps, if_pos (by rw [hPv]; simp)]; exact h8, k1⟩
          · refine o_isnot_str_ref ?_
            repeat walk_at "w"
            refine ⟨keeps_bound h7, c_bound h7 h8 (by rw [sizeLine_eq]; omega) ?_⟩
            repeat walk_at "w"
            obtain ⟨k, hk, i', a1, a2, a3, a4, a5, a6, a7, a8, a9, a10, a11⟩ := add (by rw [hPv]; simp [sv])
            exact ⟨k, hk, i', a1, a2, a3, a4, a5, a6, congrArg some (congrArg (Value.int · 0) a7), a8, a9, a10, a11⟩
      · have hc42 : c ≠ 42 := fun q => by subst q; simp at hq; exact hq rfl
        have hps : pieces (.ref st) (l.take (i + 1)) = pieces (.ref st) (l.take i) ++ [sv (escS c)] := by rw [htk, pieces_snoc]; unfold pcs; rw [if_neg hc42]
        have hc2 : c = 34 ∨ c = 46 ∨ c = 124 ∨ c = 97 := hcs.resolve_left hc42
        repeat walk_at "w"
        refine if_f (decide_eq_false fun q => by have := S_inj (b := [63]) q; simp at this; omega) ?_
        repeat walk_at "w"
        refine if_f (decide_eq_false fun q => by have := S_inj (b := [91]) q; simp at this; omega) ?_
        repeat walk_at "w"
        refine call_fn (k := 42) (Room.le room (by decide)) (Fn.mono (fn_escape b hc2) fun r σ2 q => ?_)
        obtain ⟨rfl, rfl⟩ := q
        repeat walk_at "w"
        refine ⟨keeps_bound h7, c_bound h7 h8 (by rw [sizeLine_eq]; omega) ?_⟩
        repeat walk_at "w"
        exact ⟨l.length - (i + 1), stepLt (by assumption), i + 1, rfl, hlt, h1, h2, h3, h4, rfl, h6, upd_keep h7 h8 (fun c => nomatch c), by rw [hps]; exact Sto.upd_same _ _ _, sup_upd k1 hR⟩
    · rw [decide_eq_false_iff_not, S_len] at h
      have hge : i = l.length := by omega
      try dsimp only
      repeat walk_at "w"
      refine ⟨by rw [S_len, hge]; simp, ?_⟩
      repeat walk_at "w"
      intro v' hv'
      rw [hge, List.take_length] at h8
      exact ⟨R, hv', hR, h8, k1⟩
end
section
def vp (st : Addr) : Option Str → Value
  | none => .ref st
  | some x => sv x
inductive Jn : List (Option Str) → List Str → Prop
  | nil : Jn [] []
  | last : Jn [none] [".*"]
  | tail (x : Str) (fx : List Str) : Jn (none :: (x :: fx).map some) [".*", cat (x :: fx)]
  | more (x : Str) (fx : List Str) (r : List (Option Str)) (out : List Str) : Jn (none :: r) out → Jn (none :: ((x :: fx).map some ++ none :: r)) (S (L "(?>.*?" ++ L (cat (x :: fx)) ++ L ")") :: out)
theorem sum_drop_le : ∀ (l : List Nat) (i : Nat), (l.drop i).sum ≤ l.sum
  | [], i => by simp
  | a :: l, 0 => Nat.le_refl _
  | a :: l, i + 1 => Nat.le_trans (sum_drop_le l i) (by simp)
def wts (ps : List (Option Str)) : Nat := (ps.map fun p => (p.getD (S [])).length).sum
theorem wts_some (xs : List Str) : wts (xs.map some) = (xs.map (·.length)).sum := by unfold wts; rw [List.map_map]; rfl
theorem wts_cons (p : Option Str) (r : List (Option Str)) : wts (p :: r) = (p.getD (S [])).length + wts r := by simp [wts]
theorem wts_append (a b : List (Option Str)) : wts (a ++ b) = wts a + wts b := by simp [wts]
theorem cat_length (xs : List Str) : (cat xs).length = (xs.map (·.length)).sum := by rw [← cat_len, L_len]
theorem Jn.len {ps : List (Option Str)} {out : List Str} (h : Jn ps out) : (out.map (·.length)).sum ≤ 8 * ps.length + wts ps := by
  induction h with
  | nil => simp
  | last => decide
  | tail x fx =>
    have := cat_length (x :: fx)
    have e : (Str.ofString ".*").length = 2 := by rfl
    rw [wts_cons, wts_some]
    simp only [List.map_cons, List.map_nil, List.sum_cons, List.sum_nil, List.length_cons, List.length_map, e, Option.getD_none, S_len, List.length_nil] at this ⊢
    omega
  | more x fx r out h ih =>
    have := cat_length (x :: fx)
    have e1 : (L (Str.ofString "(?>.*?")).length = 6 := by rfl
    have e2 : (L (Str.ofString ")")).length = 1 := by rfl
    rw [wts_cons, wts_append, wts_some, wts_cons]
    rw [wts_cons] at ih
    simp only [List.map_cons, List.sum_cons, List.length_cons, List.length_append, List.length_map, S_len, L_len, Option.getD_none, List.length_nil] at this ih e1 e2 ⊢
    omega
noncomputable def ob_jnp (w : World) : {o // (K1 w).lookup 196 = some o} := ⟨_, rfl⟩
noncomputable def fd_jnp (w : World) : {fd // (ob_jnp w).1.data = .func fd} := ⟨_, rfl⟩
noncomputable def bd_jnp (w : World) : {b // (fd_jnp w).1.body = .stmts b} := ⟨_, rfl⟩
noncomputable def cx_jnp (w : World) (h₀ : Heap) (A : Around) (L : Addr) : Cx := ⟨prog1, w, h₀, A, callEnvC (fd_jnp w).1 L 196, botE⟩
inductive JnA (ps : List (Option Str)) (p0 st R B : Addr) (σ2 : Sto) (k : Nat) (m' : Map) (σ' : Sto) : Prop
  | mk (q1 : σ' = σ2) (q2 : m' (Str.ofString "inp") = some (.ref p0)) (q3 : m' (Str.ofString "STAR") = some (.ref st)) (q4 : m' (Str.ofString "res") = some (.ref R)) (q5 : m' (Str.ofString "add") = some (.ref B)) (q6 : m' (Str.ofString "i") = some (.int ((0 : Nat) : Int) 0)) (q7 : m' (Str.ofString "n") = some (.int ((none :: ps).map (vp st)).length 0)) : JnA ps p0 st R B σ2 k m' σ'
inductive JnB (ps : List (Option Str)) (p0 st R B : Addr) (σ : Sto) (out : List Str) (k : Nat) (m' : Map) (σ' : Sto) : Prop
  | mk (i) (acc) (out') (q1 : k = (none :: ps).length - i) (q2 : i ≤ (none :: ps).length) (q3 : Jn ((none :: ps).drop i) out') (q4 : acc ++ out' = out) (q5 : m' (Str.ofString "inp") = some (.ref p0)) (q6 : m' (Str.ofString "STAR") = some (.ref st)) (q7 : m' (Str.ofString "res") = some (.ref R)) (q8 : m' (Str.ofString "add") = some (.ref B)) (q9 : m' (Str.ofString "i") = some (.int (i : Int) 0)) (q10 : m' (Str.ofString "n") = some (.int ((none :: ps).map (vp st)).length 0)) (q11 : σ' B = some (.raw (boundObj R))) (q12 : σ' R = some (.list (acc.map sv))) (q13 : acc.length ≤ 3 * i) (q14 : ∀ a y, σ a = some y → σ' a = some y) : JnB ps p0 st R B σ out k m' σ'
inductive JnC (ps : List (Option Str)) (p0 st R B F : Addr) (σ : Sto) (x : Str) (fx : List Str) (i : Nat) (acc : List Str) (k : Nat) (m' : Map) (σ' : Sto) : Prop
  | mk (d) (q1 : k = (x :: fx).length - d) (q2 : d ≤ (x :: fx).length) (q3 : m' (Str.ofString "inp") = some (.ref p0)) (q4 : m' (Str.ofString "STAR") = some (.ref st)) (q5 : m' (Str.ofString "res") = some (.ref R)) (q6 : m' (Str.ofString "add") = some (.ref B)) (q7 : m' (Str.ofString "i") = some (.int ((i + 1 + d : Nat) : Int) 0)) (q8 : m' (Str.ofString "n") = some (.int ((none :: ps).map (vp st)).length 0)) (q9 : m' (Str.ofString "fixed") = some (.ref F)) (q10 : σ' F = some (.list (((x :: fx).take d).map sv))) (q11 : σ' B = some (.raw (boundObj R))) (q12 : σ' R = some (.list (acc.map sv))) (q13 : ∀ a y, σ a = some y → σ' a = some y) : JnC ps p0 st R B F σ x fx i acc k m' σ'
@[reducible] def JnpPost (out : List Str) (σ : Sto) (r : Value) (σ' : Sto) : Prop := r = sv (S (L "(?s:" ++ L (cat out) ++ L ")\\Z")) ∧ ∀ a y, σ a = some y → σ' a = some y
set_option maxHeartbeats 4000000 in
theorem fn_jnp {w : World} {h₀ : Heap} (b : Bs w h₀) {σ : Sto} {ps : List (Option Str)} {out : List Str} {p0 st : Addr} (hj : Jn (none :: ps) out) (hp : σ p0 = some (.list ((none :: ps).map (vp st)))) (hz : ps.length ≤ 1000) (hsz : wts ps ≤ 10000) :
    Fn prog1 w h₀ 41 (.ref 196) [.ref p0, .ref st] (JnpPost out σ) botF σ := by
  refine fn_plain (o := (ob_jnp w).1) (fd := (fd_jnp w).1) (body := (bd_jnp w).1) (names := [("inp" : Str), "STAR"]) (b.X 196 _ (ob_jnp w).2) (fd_jnp w).2 (bd_jnp w).2 (by rfl) b.nolimit (b.code (c := 195) (by rfl) (by rfl) (by rfl)) ?_ (by rfl) (by intro _; rfl) ?_
  · intro vals hv
    obtain ⟨a, c, rfl, _, _⟩ := inv2 hv
    rfl
  · intro Ar L0 room hL
    show (cx_jnp w h₀ Ar L0).W (execs (bd_jnp w).1 (cx_jnp w h₀ Ar L0).env) _ _ _
    have hh : Ar.handled = none := room.2.2 (by decide)
    have hlen := len_glob b
    have hos : (out.map (·.length)).sum ≤ 20000 := by
      have := hj.len
      rw [wts_cons] at this
      simp only [List.length_cons, Option.getD_none, S_len, List.length_nil] at this
      omega
    refine s_cons ?_
    repeat walk_at "w"
    refine ⟨by walk_at "sz", fun R hR => ?_⟩
    repeat walk_at "w"
    refine a_append (Sto.upd_same _ _ _) fun B hB => ?_
    repeat walk_at "w"
    refine s_asgswap hh (x := "i") (y := "n") ?_
    repeat walk_at "w"
    have hRB : R ≠ B := ne_of_none (Sto.upd_same σ R (.list [])) hB
    have hB0 : σ B = none := by rw [Sto.upd_ne (Ne.symm hRB)] at hB; exact hB
    have s1 : ∀ a y, σ a = some y → ((σ.upd R (.list [])).upd B (.raw (boundObj R))) a = some y := sup_upd (sup_upd (fun _ _ e => e) hR) hB0
    have hp1 := s1 _ _ hp
    repeat walk_at "w"
    refine ⟨by walk_at "sz", fun t ht => ?_⟩
    have s2 := sup_upd s1 (sup_none s1 ht) (w := .tup [.int 0 0, .int ((none :: ps).map (vp st)).length 0])
    have hp2 := s2 _ _ hp
    have hB2 := upd_fresh (w := .tup [.int 0 0, .int ((none :: ps).map (vp st)).length 0]) (Sto.upd_same (σ.upd R (.list [])) B (.raw (boundObj R))) ht
    have hR2 := upd_fresh (w := .tup [.int 0 0, .int ((none :: ps).map (vp st)).length 0]) (upd_fresh (w := .raw (boundObj R)) (Sto.upd_same σ R (.list [])) hB) ht
    refine ⟨t, _, _, rfl, Sto.upd_same _ _ _, ?_⟩
    generalize ((σ.upd R (.list [])).upd B (.raw (boundObj R))).upd t (.tup [.int 0 0, .int ((none :: ps).map (vp st)).length 0]) = σ2 at s2 hp2 hB2 hR2
    repeat walk_at "w"
    refine s_while (JnA ps p0 st R B σ2) 0
      ⟨rfl, rfl, rfl, rfl, rfl, rfl, rfl⟩ ?_
    rintro k m₁ _ ⟨rfl, h1, h2, h3, h4, h5, h6⟩
    repeat walk_at "w"
    refine if_t (by simp) ?_
    repeat walk_at "w"
    refine ⟨got_list hp2, o_getl hp2 (by decide) (v := .ref st) (by rfl) ?_⟩
    repeat walk_at "w"
    refine o_isnot_self ?_
    repeat walk_at "w"
    refine s_while (JnB ps p0 st R B σ out) _
      ⟨0, [], out, rfl, Nat.zero_le _, hj, rfl, h1, h2, h3, h4, h5, h6, hB2, hR2, Nat.zero_le _, s2⟩ ?_
    rintro k m₁ σ₁ ⟨i, acc, out', rfl, hi, hj, ho, h1, h2, h3, h4, h5, h6, h7, h8, ha, k1⟩
    have hp3 := k1 _ _ hp
    have hlen2 : ((none :: ps).map (vp st)).length = (none :: ps).length := List.length_map _
    have hz' : (none :: ps).length ≤ 1001 := by simp; omega
    repeat walk_at "w"
    refine if_b (fun h => ?_) fun h => ?_
    · rw [decide_eq_true_eq, hlen2] at h
      have hlt : i < (none :: ps).length := by omega
      have hget : ∀ j : Nat, (none :: ps)[i + j]? = ((none :: ps).drop i)[j]? := fun j => by rw [List.getElem?_drop]
      have hv : ∀ j : Nat, ((none :: ps).map (vp st))[i + j]? = (((none :: ps).drop i)[j]?).map (vp st) := fun j => by rw [List.getElem?_map, hget]
      have hln : (none :: ps).length = i + ((none :: ps).drop i).length := by rw [List.length_drop]; omega
      have hdd : ∀ j : Nat, (none :: ps).drop (i + j) = ((none :: ps).drop i).drop j := fun j => by rw [List.drop_drop]
      generalize hPL : (none :: ps).length = N at hz' hlt hln
      generalize hD : (none :: ps).drop i = D at hj hget hv hln hdd
      have h0 : D[0]? = some none := by cases hj <;> first | rfl | (simp at hln; omega)
      refine s_cons ?_
      repeat walk_at "w"
      refine ⟨got_list hp3, o_getl hp3 (by omega) (v := .ref st) (by have := hv 0; rw [h0] at this; exact this) ?_⟩
      repeat walk_at "w"
      refine o_is_self ?_
      repeat walk_at "w"
      refine ⟨rfl, ?_⟩
      repeat walk_at "w"
      have hlv : ((none :: ps).map (vp st)).length = N := by rw [List.length_map]; exact hPL
      have shape : (D = [none] ∧ out' = [(".*" : Str)]) ∨ ∃ x fx rest, D = none :: ((x :: fx).map some ++ rest) ∧ ((rest = [] ∧ out' = [(".*" : Str), cat (x :: fx)]) ∨ ∃ r out2, rest = none :: r ∧ Jn (none :: r) out2 ∧ out' = S (L "(?>.*?" ++ L (cat (x :: fx)) ++ L ")") :: out2) := by
        cases hj with
        | nil => simp at h0
        | last => exact .inl ⟨rfl, rfl⟩
        | tail x fx => exact .inr ⟨x, fx, [], by simp, .inl ⟨rfl, rfl⟩⟩
        | more x fx r out2 h => exact .inr ⟨x, fx, none :: r, rfl, .inr ⟨r, out2, rfl, h, rfl⟩⟩
      have hwD : wts D ≤ 10000 := by
        have := sum_drop_le ((none :: ps).map fun p => (p.getD (S [])).length) i
        rw [← List.map_drop, hD] at this
        have e : wts (none :: ps) = wts ps := by rw [wts_cons]; simp [S_len]
        unfold wts at e hsz ⊢
        omega
      rcases shape with ⟨hDe, hoe⟩ | ⟨x, fx, rest, hDe, hrest⟩
      · have hN : N = i + 1 := by rw [hln, hDe]; rfl
        refine if_t (by rw [hlv, hN]; simp) ?_
        repeat walk_at "w"
        refine ⟨keeps_bound h7, c_bound h7 h8 (by rw [List.length_map, sizeLine_eq]; omega) ?_⟩
        repeat walk_at "w"
        refine ⟨by rw [hlv, hN]; simp, ?_⟩
        have hae : acc ++ [(".*" : Str)] = out := by rw [← hoe]; exact ho
        have h9 : (σ₁.upd R (.list (acc.map sv ++ [sv (".*" : Str)]))) R = some (.list (out.map sv)) := by rw [Sto.upd_same, ← hae, List.map_append]; rfl
        repeat walk_at "w"
        refine m_str ?_ PySem.F.slot_str_join
        repeat walk_at "w"
        refine c_join h9 (by omega) ?_
        repeat walk_at "w"
        refine ⟨cat out, rfl, by rw [cat_length]; omega, ?_⟩
        intro v' hv'
        exact ⟨hv', sup_upd k1 hR⟩
      · have hN : N = i + 1 + (x :: fx).length + rest.length := by rw [hln, hDe]; simp; omega
        refine if_f (by rw [hlv, hN]; simp; omega) ?_
        repeat walk_at "w"
        refine ⟨got_list hp3, o_getl (i := i + 1) hp3 (by omega) (v := sv x) (by have := hv 1; rw [hDe] at this; exact this) ?_⟩
        repeat walk_at "w"
        refine o_isnot_str_ref ?_
        repeat walk_at "w"
        refine ⟨rfl, ?_⟩
        repeat walk_at "w"
        refine ⟨by walk_at "sz", fun F hF => ?_⟩
        repeat walk_at "w"
        have hFn := sup_none k1 hF
        have hRF : R ≠ F := ne_of_none h8 hF
        have hvd : ∀ (d : Nat) (y : Str), (x :: fx)[d]? = some y → ((none :: ps).map (vp st))[i + 1 + d]? = some (sv y) := fun d y hy => by
          have hdl := (List.getElem?_eq_some_iff.mp hy).1
          have e : D[1 + d]? = some (some y) := by
            rw [hDe, Nat.add_comm 1 d, List.getElem?_cons_succ, List.getElem?_append_left (by rw [List.length_map]; exact hdl), List.getElem?_map, hy]
            rfl
          have := hv (1 + d)
          rw [e] at this
          rw [Nat.add_assoc]
          exact this
        have hcl : (cat (x :: fx)).length ≤ 10000 := by
          rw [cat_length]
          rw [hDe, wts_cons, wts_append, wts_some] at hwD
          omega
        have hcs : ((x :: fx).map (·.length)).sum ≤ 1000000 := by
          rw [← cat_length]; omega
        refine s_while (JnC ps p0 st R B F σ x fx i acc) _
          ⟨0, rfl, Nat.zero_le _, h1, h2, h3, h4, rfl, h6, rfl, Sto.upd_same _ _ _, upd_fresh h7 hF, upd_fresh h8 hF, sup_upd k1 hFn⟩ ?_
        rintro k m₂ σ₂ ⟨d, rfl, hd, h1, h2, h3, h4, h5, h6, h6f, h9, h7, h8, k1⟩
        have hp3 := k1 _ _ hp
        by_cases hdl : d < (x :: fx).length
        · obtain ⟨y, hy⟩ : ∃ y, (x :: fx)[d]? = some y := ⟨_, List.getElem?_eq_getElem hdl⟩
          have htk : (x :: fx).take (d + 1) = (x :: fx).take d ++ [y] := by rw [List.take_add_one, hy]; rfl
          repeat walk_at "w"
          refine if_t (by rw [hlv, hN]; simp; simp at hdl; omega) ?_
          repeat walk_at "w"
          refine ⟨got_list hp3, o_getl (i := i + 1 + d) hp3 (by omega) (v := sv y) (hvd d y hy) ?_⟩
          repeat walk_at "w"
          refine o_isnot_str_ref ?_
          repeat walk_at "w"
          refine m_list h9 ?_ PySem.F.slot_list_append
          repeat walk_at "w"
          refine ⟨got_list hp3, o_getl (i := i + 1 + d) hp3 (by omega) (v := sv y) (hvd d y hy) ?_⟩
          repeat walk_at "w"
          refine c_append h9 (by rw [List.length_map, List.length_take, sizeLine_eq]; omega) ?_
          repeat walk_at "w"
          refine ⟨(x :: fx).length - (d + 1), stepLt (by assumption), d + 1, rfl, hdl, h1, h2, h3, h4, rfl, h6, h6f, ?_, upd_keep h7 h9 (fun c => nomatch c), by rw [Sto.upd_ne hRF]; exact h8, sup_upd k1 hFn⟩
          rw [Sto.upd_same, htk, List.map_append]
          rfl
        · have hde : d = (x :: fx).length := by omega
          subst hde
          rw [List.take_length] at h9
          repeat walk_at "w"
          rcases hrest with ⟨hre, hoe⟩ | ⟨r, out2, hre, hj2, hoe⟩
          · have hNe : i + 1 + (x :: fx).length = N := by rw [hN, hre]; simp
            refine if_f (by rw [hlv, hNe]; simp) ?_
            repeat walk_at "w"
            refine m_str ?_ PySem.F.slot_str_join
            repeat walk_at "w"
            refine c_join h9 hcs ?_
            repeat walk_at "w"
            refine if_t (by rw [hlv, ← hNe]; simp) ?_
            repeat walk_at "w"
            refine ⟨keeps_bound h7, c_bound h7 h8 (by rw [List.length_map, sizeLine_eq]; omega) ?_⟩
            repeat walk_at "w"
            have h7' := upd_keep (w := .list (acc.map sv ++ [sv (".*" : Str)])) h7 h8 (fun c => nomatch c)
            refine ⟨keeps_bound h7', c_bound h7' (Sto.upd_same _ _ _) (by rw [List.length_append, List.length_map, sizeLine_eq]; simp; omega) ?_⟩
            repeat walk_at "w"
            refine ⟨0, by omega, N, acc ++ [(".*" : Str), cat (x :: fx)], [], by rw [hPL, Nat.sub_self], Nat.le_of_eq hPL.symm, by rw [← hPL, List.drop_length]; exact Jn.nil, by rw [List.append_nil, ← hoe]; exact ho, h1, h2, h3, h4, by rw [← hNe]; exact h5, h6, upd_keep h7' (Sto.upd_same _ _ _) (fun c => nomatch c), ?_, by rw [List.length_append]; simp; omega, sup_upd (sup_upd k1 hR) hR⟩
            rw [Sto.upd_same, List.map_append, List.append_assoc]
            rfl
          · have hNe : i + 1 + (x :: fx).length < N := by rw [hN, hre]; simp
            refine if_t (by rw [hlv]; simp at hNe ⊢; omega) ?_
            repeat walk_at "w"
            refine ⟨got_list hp3, o_getl (i := i + 1 + (x :: fx).length) hp3 (by omega) (v := .ref st) (by
              have := hv (1 + (x :: fx).length)
              rw [hDe, hre, Nat.add_comm 1 (x :: fx).length, List.getElem?_cons_succ, List.getElem?_append_right (by rw [List.length_map]; exact Nat.le_refl _)] at this
              simp only [List.length_map, Nat.sub_self] at this
              rw [← Nat.add_assoc] at this
              rw [Nat.add_right_comm]
              exact this) ?_⟩
            repeat walk_at "w"
            refine o_isnot_self ?_
            repeat walk_at "w"
            refine m_str ?_ PySem.F.slot_str_join
            repeat walk_at "w"
            refine c_join h9 hcs ?_
            repeat walk_at "w"
            refine if_f (by rw [hlv]; simp at hNe ⊢; omega) ?_
            repeat walk_at "w"
            refine ⟨cat (x :: fx), rfl, by omega, ?_⟩
            repeat walk_at "w"
            refine ⟨keeps_bound h7, c_bound h7 h8 (by rw [List.length_map, sizeLine_eq]; omega) ?_⟩
            repeat walk_at "w"
            refine ⟨N - (i + 1 + (x :: fx).length), by omega, i + 1 + (x :: fx).length, acc ++ [S (L "(?>.*?" ++ L (cat (x :: fx)) ++ L ")")], out2, by rw [hPL], by rw [hPL]; exact Nat.le_of_lt hNe, ?_, by rw [List.append_assoc, List.singleton_append, ← hoe]; exact ho, h1, h2, h3, h4, h5, h6, upd_keep h7 h8 (fun c => nomatch c), ?_, by rw [List.length_append]; simp; omega, sup_upd k1 hR⟩
            · have e := hdd (1 + (x :: fx).length)
              rw [← Nat.add_assoc, hDe, Nat.add_comm 1 (x :: fx).length, List.drop_succ_cons, List.drop_append_of_le_length (by rw [List.length_map]; exact Nat.le_refl _), hre] at e
              rw [e, List.drop_of_length_le (by rw [List.length_map]; exact Nat.le_refl _)]
              exact hj2
            · rw [Sto.upd_same, List.map_append]
              rfl
    · rw [decide_eq_false_iff_not, hlen2] at h
      have hge : i = (none :: ps).length := by omega
      try dsimp only
      have hoe : out' = [] := by
        rw [hge, List.drop_length] at hj
        cases hj
        rfl
      rw [hoe, List.append_nil] at ho
      subst ho
      repeat walk_at "w"
      refine ⟨by rw [hlen2, hge]; simp, ?_⟩
      repeat walk_at "w"
      refine m_str ?_ PySem.F.slot_str_join
      repeat walk_at "w"
      refine c_join h8 (by omega) ?_
      repeat walk_at "w"
      refine ⟨cat acc, rfl, by rw [cat_length]; omega, ?_⟩
      intro v' hv'
      exact ⟨hv', k1⟩
end
section
noncomputable def ob_tra (w : World) : {o // (K1 w).lookup 170 = some o} := ⟨_, rfl⟩
noncomputable def fd_tra (w : World) : {fd // (ob_tra w).1.data = .func fd} := ⟨_, rfl⟩
noncomputable def bd_tra (w : World) : {b // (fd_tra w).1.body = .stmts b} := ⟨_, rfl⟩
noncomputable def cx_tra (w : World) (h₀ : Heap) (A : Around) (L : Addr) : Cx := ⟨prog1, w, h₀, A, callEnvC (fd_tra w).1 L 170, botE⟩
theorem fn_tra {w : World} {h₀ : Heap} (b : Bs w h₀) {σ : Sto} {l : List Nat} {ps : List (Option Str)} {out : List Str} (hl : ∀ c ∈ l, c = 42 ∨ c = 34 ∨ c = 46 ∨ c = 124 ∨ c = 97) (hz : l.length ≤ 1000) (hps : ∀ st, pieces (.ref st) l = (none :: ps).map (vp st)) (hj : Jn (none :: ps) out) (hpz : ps.length ≤ 1000) (hsz : wts ps ≤ 10000) :
    Fn prog1 w h₀ 45 (.ref 170) [sv (S l)] (fun r σ' => r = sv (S (L "(?s:" ++ L (cat out) ++ L ")\\Z")) ∧ ∀ a y, σ a = some y → σ' a = some y) botF σ := by
  refine fn_plain (o := (ob_tra w).1) (fd := (fd_tra w).1) (body := (bd_tra w).1) (names := [("pat" : Str)]) (b.X 170 _ (ob_tra w).2) (fd_tra w).2 (bd_tra w).2 (by rfl) b.nolimit (b.code (c := 169) (by rfl) (by rfl) (by rfl)) ?_ (by rfl) (by intro _; rfl) ?_
  · intro vals hv
    obtain ⟨a, rfl, _⟩ := inv1 hv
    rfl
  · intro Ar L0 room hL
    show (cx_tra w h₀ Ar L0).W (execs (bd_tra w).1 (cx_tra w h₀ Ar L0).env) _ _ _
    have hobj : GV (cx_tra w h₀ Ar L0).h₀ "object" (.type "object") := b.built (by rfl) (by rfl) (by decide)
    have htrl : GV (cx_tra w h₀ Ar L0).h₀ "_translate" (.ref 189) := b.glob (by rfl)
    have hjnp : GV (cx_tra w h₀ Ar L0).h₀ "_join_translated_parts" (.ref 196) := b.glob (by rfl)
    have X : (K1 w).In h₀ := b.X
    refine s_cons ?_
    repeat walk_at "w"
    refine c_object fun st hst => ?_
    repeat walk_at "w"
    refine call_fn (k := 44) (Room.le room (by decide)) (Fn.mono (fn_trl b (st := st) (Sto.upd_same _ _ _) hl hz) fun r σ2 q => ?_)
    obtain ⟨R, rfl, hR, hR2, k2⟩ := q
    rw [hps] at hR2
    repeat walk_at "w"
    refine call_fn (k := 41) (Room.le room (by decide)) (Fn.mono (fn_jnp b hj hR2 hpz hsz) fun r σ3 q => ?_)
    obtain ⟨rfl, k3⟩ := q
    repeat walk_at "w"
    intro v' hv'
    exact ⟨hv', fun a y e => k3 _ _ (k2 _ _ (upd_fresh e hst))⟩
end
section
def choices : List Str := ["", "\"", ".", "|", "\".", "\"|", ".|", "\".|"]
noncomputable def ob_chs (w : World) : {o // (K1 w).lookup 235 = some o} := ⟨_, rfl⟩
noncomputable def fd_chs (w : World) : {fd // (ob_chs w).1.data = .func fd} := ⟨_, rfl⟩
noncomputable def bd_chs (w : World) : {b // (fd_chs w).1.body = .stmts b} := ⟨_, rfl⟩
noncomputable def cx_chs (w : World) (h₀ : Heap) (A : Around) (L : Addr) : Cx := ⟨prog1, w, h₀, A, callEnvC (fd_chs w).1 L 235, botE⟩
set_option maxHeartbeats 4000000 in
theorem fn_chs {w : World} {h₀ : Heap} (b : Bs w h₀) {σ : Sto} : Fn prog1 w h₀ 1 (.ref 235) [] (fun r σ' => ∃ D, r = .ref D ∧ σ D = none ∧ σ' = σ.upd D (.list (choices.map sv))) botF σ := by
  refine fn_plain (o := (ob_chs w).1) (fd := (fd_chs w).1) (body := (bd_chs w).1) (names := []) (b.X 235 _ (ob_chs w).2) (fd_chs w).2 (bd_chs w).2 (by rfl) b.nolimit (b.code (c := 234) (by rfl) (by rfl) (by rfl)) ?_ (by rfl) (by intro _; rfl) ?_
  · intro vals hv
    have : vals = [] := by simpa using hv
    subst this
    rfl
  · intro Ar L0 room hL
    show (cx_chs w h₀ Ar L0).W (execs (bd_chs w).1 (cx_chs w h₀ Ar L0).env) _ _ _
    refine s_cons ?_
    repeat walk_at "w"
    refine ⟨by walk_at "sz", fun D hD => ?_⟩
    intro v' hv'
    exact ⟨D, hv', hD, rfl⟩
theorem pq_each : ∀ (l r : List Nat), (∀ z, r.head? = some z → z ≠ 34) → pq (each 34 [34, 34] l ++ 34 :: r) = l
  | [], r, h => by
    show pq (34 :: r) = []
    exact pq_end h
  | c :: l, r, h => by
    have ih := pq_each l r h
    by_cases q : c = 34
    · subst q
      show pq (34 :: 34 :: (each 34 [34, 34] l ++ 34 :: r)) = _
      rw [pq_qq, ih]
    · have : each 34 [34, 34] (c :: l) = c :: each 34 [34, 34] l := by simp [each, q]
      rw [this]
      show pq (c :: (each 34 [34, 34] l ++ 34 :: r)) = _
      rw [pq_ne q, ih]
theorem each_len : ∀ (l : List Nat), (each 34 [34, 34] l).length ≤ 2 * l.length
  | [] => Nat.le_refl _
  | c :: l => by
    have := each_len l
    have e : each 34 [34, 34] (c :: l) = (if c = 34 then [34, 34] else [c]) ++ each 34 [34, 34] l := by simp [each]
    rw [e, List.length_append, List.length_cons]
    by_cases q : c = 34 <;> simp [q] <;> omega
noncomputable def ob_lrd (w : World) : {o // (K1 w).lookup 242 = some o} := ⟨_, rfl⟩
noncomputable def fd_lrd (w : World) : {fd // (ob_lrd w).1.data = .func fd} := ⟨_, rfl⟩
noncomputable def bd_lrd (w : World) : {b // (fd_lrd w).1.body = .stmts b} := ⟨_, rfl⟩
noncomputable def cx_lrd (w : World) (h₀ : Heap) (A : Around) (L : Addr) : Cx := ⟨prog1, w, h₀, A, callEnvC (fd_lrd w).1 L 242, botE⟩
set_option maxHeartbeats 1000000 in
set_option maxHeartbeats 4000000 in
theorem fn_lrd {w : World} {h₀ : Heap} (b : Bs w h₀) {σ : Sto} {l : List Nat} (hz : l.length ≤ 1000) : Fn prog1 w h₀ 45 (.ref 242) [sv (S l)] (fun r σ' => ∃ D, r = .ref D ∧ σ D = none ∧ σ' = σ.upd D (.list [sv (S l), sv (S l)])) botF σ := by
  refine fn_plain (o := (ob_lrd w).1) (fd := (fd_lrd w).1) (body := (bd_lrd w).1) (names := [("name" : Str)]) (b.X 242 _ (ob_lrd w).2) (fd_lrd w).2 (bd_lrd w).2 (by rfl) b.nolimit (b.code (c := 241) (by rfl) (by rfl) (by rfl)) ?_ (by rfl) (by intro _; rfl) ?_
  · intro vals hv
    obtain ⟨a, rfl, _⟩ := inv1 hv
    rfl
  · intro Ar L0 room hL
    show (cx_lrd w h₀ Ar L0).W (execs (bd_lrd w).1 (cx_lrd w h₀ Ar L0).env) _ _ _
    have hpar : GV (cx_lrd w h₀ Ar L0).h₀ "parse257" (.ref 228) := b.glob (by rfl)
    have X : (K1 w).In h₀ := b.X
    refine s_cons ?_
    refine s_assign ?_
    refine v_bin ?_
    refine v_addT ?_
    refine t_replace (y := [34]) (z := [34, 34]) ?_ (by rfl) (by decide)
    repeat walk_at "w"
    have hel : (each 34 [34, 34] l).length ≤ 2000 := by
      have := each_len l
      omega
    refine ⟨S l, rfl, by rw [S_len]; omega, ?_⟩
    rw [replace1, L_S]
    have za : (L (Str.ofString "257 \"")).length = 5 := by rfl
    refine o_adds (by rw [L_S, za, sizeLine_eq]; omega) ?_
    have zb : (L (Str.ofString "\"")).length = 1 := by rfl
    repeat walk_at "w"
    have zl : L (Str.ofString "257 \"") = [50, 53, 55, 32, 34] := by rfl
    have zm : L (Str.ofString "\"") = [34] := by rfl
    have p1 : ∀ r : List Nat, (∀ z, r.head? = some z → z ≠ 34) → parse (50 :: 53 :: 55 :: 32 :: 34 :: (each 34 [34, 34] l ++ 34 :: r)) = l := fun r h => by
      unfold parse
      rw [if_pos (by rfl)]
      exact pq_each l r h
    have q1 : S (L (S (L (Str.ofString "257 \"") ++ L (S (each 34 [34, 34] l)))) ++ L (Str.ofString "\"")) = S (50 :: 53 :: 55 :: 32 :: 34 :: (each 34 [34, 34] l ++ 34 :: [])) := by
      rw [zl, zm, L_S, L_S]; simp
    rw [q1]
    have zc : (L (Str.ofString " is made, \"\" is not")).length = 19 := by rfl
    refine call_fn (k := 1) (Room.le room (by decide)) (Fn.mono (fn_parse b _ (by simp; omega) (by rfl) σ) fun r σ2 q => ?_)
    obtain ⟨rfl, rfl⟩ := q
    rw [p1 [] (fun z h => nomatch h)]
    repeat walk_at "w"
    have q2 : S (L (S (50 :: 53 :: 55 :: 32 :: 34 :: (each 34 [34, 34] l ++ 34 :: []))) ++ L (Str.ofString " is made, \"\" is not")) = S (50 :: 53 :: 55 :: 32 :: 34 :: (each 34 [34, 34] l ++ 34 :: L (Str.ofString " is made, \"\" is not"))) := by
      rw [L_S]; simp
    rw [q2]
    refine call_fn (k := 1) (Room.le room (by decide)) (Fn.mono (fn_parse b _ (by simp [zc]; omega) (by rfl) σ2) fun r σ3 q => ?_)
    obtain ⟨rfl, rfl⟩ := q
    rw [p1 _ (fun z h => by cases h; decide)]
    repeat walk_at "w"
    refine ⟨by walk_at "sz", fun D hD => ?_⟩
    intro v' hv'
    exact ⟨D, hv', hD, rfl⟩
end
section
def twin (c : Nat) : List Nat := if c = 34 then [34] else [92, c]
def Sgn (c : Nat) : Prop := c = 34 ∨ c = 46 ∨ c = 124
def ruleText (a b : Nat) : List Nat := L "(?s:(?>.*?" ++ twin a ++ L ")(?>.*?" ++ twin b ++ L ").*)\\Z"
def midText (a b : Nat) : List Nat := twin a ++ L ")(?>.*?" ++ twin b
theorem rule_len {x y : Nat} (hx : Sgn x) (hy : Sgn y) : (ruleText x y).length ≤ 100 := by
  rcases hx with rfl | rfl | rfl <;> rcases hy with rfl | rfl | rfl <;> decide
theorem rule_mid {x y : Nat} (hx : Sgn x) (hy : Sgn y) : cut (some 10) (some (-6)) (ruleText x y) = midText x y := by
  rcases hx with rfl | rfl | rfl <;> rcases hy with rfl | rfl | rfl <;> rfl
theorem rule_head {x y : Nat} (hx : Sgn x) (hy : Sgn y) : cut none (some 10) (ruleText x y) = L "(?s:(?>.*?" := by
  rcases hx with rfl | rfl | rfl <;> rcases hy with rfl | rfl | rfl <;> rfl
theorem rule_tail {x y : Nat} (hx : Sgn x) (hy : Sgn y) : cut (some (-6)) none (ruleText x y) = L ").*)\\Z" := by
  rcases hx with rfl | rfl | rfl <;> rcases hy with rfl | rfl | rfl <;> rfl
abbrev sepText : Str := ")(?>.*?"
theorem mid_len {x y : Nat} (hx : Sgn x) (hy : Sgn y) : (S (midText x y)).length ≤ 100 := by
  rcases hx with rfl | rfl | rfl <;> rcases hy with rfl | rfl | rfl <;> decide
theorem mid_kind {x y : Nat} (hx : Sgn x) (hy : Sgn y) : (decide ((S (midText x y)).length < sepText.length) || decide (Builtin.Str.strKind (S (midText x y)) < Builtin.Str.strKind sepText)) = false := by
  rcases hx with rfl | rfl | rfl <;> rcases hy with rfl | rfl | rfl <;> kernel_rfl
theorem mid_occ {x y : Nat} (hx : Sgn x) (hy : Sgn y) : (Builtin.Str.occurrences (S (midText x y)) sepText 0 (S (midText x y)).length ((S (midText x y)).length + 1)).isEmpty = false := by
  rcases hx with rfl | rfl | rfl <;> rcases hy with rfl | rfl | rfl <;> kernel_rfl
theorem mid_parts {x y : Nat} (hx : Sgn x) (hy : Sgn y) : Builtin.Str.partsBetween (S (midText x y)) (Builtin.Str.occurrences (S (midText x y)) sepText 0 (S (midText x y)).length ((S (midText x y)).length + 1)) sepText.length = [S (twin x), S (twin y)] := by
  rcases hx with rfl | rfl | rfl <;> rcases hy with rfl | rfl | rfl <;> kernel_rfl
def tab : List Str := ["\"", "\\.", "\\|"]
theorem sgn_at {c : Nat} (h : Sgn c) : ∃ j : Nat, tab[j]? = some (S (twin c)) ∧ (∀ i : Nat, i < j → tab[i]? ≠ some (S (twin c))) ∧ (L "\".|")[j]? = some c := by
  rcases h with rfl | rfl | rfl
  · exact ⟨0, by rfl, fun i h => absurd h (Nat.not_lt_zero _), by rfl⟩
  · exact ⟨1, by rfl, fun i h => by
      obtain rfl : i = 0 := by omega
      decide, by rfl⟩
  · exact ⟨2, by rfl, fun i h => by
      rcases (show i = 0 ∨ i = 1 by omega) with rfl | rfl <;> decide, by rfl⟩
noncomputable def ob_lrl (w : World) : {o // (K1 w).lookup 247 = some o} := ⟨_, rfl⟩
noncomputable def fd_lrl (w : World) : {fd // (ob_lrl w).1.data = .func fd} := ⟨_, rfl⟩
noncomputable def bd_lrl (w : World) : {b // (fd_lrl w).1.body = .stmts b} := ⟨_, rfl⟩
noncomputable def cx_lrl (w : World) (h₀ : Heap) (A : Around) (L : Addr) : Cx := ⟨prog1, w, h₀, A, callEnvC (fd_lrl w).1 L 247, botE⟩
set_option maxHeartbeats 1000000 in
theorem fn_lrl {w : World} {h₀ : Heap} (b : Bs w h₀) {σ : Sto} {x y : Nat} (hx : Sgn x) (hy : Sgn y) : Fn prog1 w h₀ 2 (.ref 247) [sv (S (ruleText x y))] (fun r σ' => r = sv (S [x, y]) ∧ ∀ a z, σ a = some z → σ' a = some z) botF σ := by
  refine fn_plainC (o := (ob_lrl w).1) (fd := (fd_lrl w).1) (body := (bd_lrl w).1) (names := [("text" : Str)]) (b.X 247 _ (ob_lrl w).2) (fd_lrl w).2 (bd_lrl w).2 (by rfl) b.nolimit (b.code (c := 246) (by rfl) (by rfl) (by rfl)) ?_ (by intro _; rfl) (by intro _; show [("table" : Str)].Nodup; simp) ?_
  · intro vals hv
    obtain ⟨a, rfl, _⟩ := inv1 hv
    rfl
  · intro Ar L0 room hf hL hc
    have hT0 := hc (("table" : Str), L0 + 1) (List.mem_singleton.mpr rfl)
    have hT1 : σ (L0 + 1) = none := hT0.1
    show (cx_lrl w h₀ Ar L0).W (execs (bd_lrl w).1 (cx_lrl w h₀ Ar L0).env) _ _ (σ.upd (L0 + 1) (.cell none))
    have hlen : GV (cx_lrl w h₀ Ar L0).h₀ "len" (.builtin "len") := b.built (by rfl) (by rfl) (by decide)
    have hsig : GV (cx_lrl w h₀ Ar L0).h₀ "_law_signs" (.str "\".|" 760) := b.glob (by rfl)
    have X : (K1 w).In h₀ := b.X
    refine s_cons ?_
    repeat walk_at "w"
    refine ⟨by walk_at "sz", fun T hT => ?_⟩
    have hT2 : (σ.upd (L0 + 1) (.cell none)) T = none := hT
    have nT : T ≠ L0 + 1 := fun q => by rw [q, Sto.upd_same] at hT2; cases hT2
    refine put_cell (c := L0 + 1) (v₀ := none) (by rfl) (by rw [Sto.upd_ne (Ne.symm nT)]; exact Sto.upd_same _ _ _) ?_
    repeat walk_at "w"
    refine sl_str (by have := rule_len hx hy; rw [S_len, sizeLine_eq]; omega) ?_
    rw [L_S, rule_mid hx hy]
    refine m_str ?_ PySem.F.slot_str_split
    repeat walk_at "w"
    refine c_split (mid_kind hx hy) (by rfl) (mid_occ hx hy) (mid_parts hx hy) (by have := mid_len hx hy; omega) (by walk_at "sz") fun P hP => ?_
    repeat walk_at "w"
    refine sl_str (by have := rule_len hx hy; rw [S_len, sizeLine_eq]; omega) ?_
    rw [L_S, rule_head hx hy]
    repeat walk_at "w"
    refine if_f (by simp) ?_
    repeat walk_at "w"
    refine sl_str (by have := rule_len hx hy; rw [S_len, sizeLine_eq]; omega) ?_
    rw [L_S, rule_tail hx hy]
    repeat walk_at "w"
    refine if_f (by simp) ?_
    generalize hσP : Sto.upd (Sto.upd (Sto.upd _ _ _) _ _) _ _ = σP
    have p1 : σP P = some (.list ([S (twin x), S (twin y)].map sv)) := by rw [← hσP]; exact Sto.upd_same _ _ _
    have pc : σP (L0 + 1) = some (.cell (some (.ref T))) := by
      rw [← hσP]
      refine upd_fresh ?_ hP
      exact Sto.upd_same _ _ _
    have pt : σP T = some (.list (tab.map sv)) := by
      rw [← hσP]
      refine upd_fresh ?_ hP
      rw [Sto.upd_ne nT]
      exact Sto.upd_same _ _ _
    have pk : ∀ a z, σ a = some z → σP a = some z := by
      intro a z e
      rw [← hσP]
      refine upd_fresh ?_ hP
      have n1 : a ≠ L0 + 1 := fun q => by rw [q, hT1] at e; cases e
      rw [Sto.upd_ne n1]
      refine upd_fresh ?_ hT
      rw [Sto.upd_ne n1]
      exact e
    repeat walk_at "w"
    refine if_f (by simp) ?_
    repeat walk_at "w"
    refine m_str ?_ PySem.F.slot_str_join
    repeat walk_at "w"
    refine v_comp (cl := [(("table" : Str), L0 + 1)]) (by rfl) ?_
    repeat walk_at "w"
    refine ⟨[S (twin x), S (twin y)].map sv, fun σ' => σ' P = some (.list ([S (twin x), S (twin y)].map sv)), fun i acc σ' => σ' = σP ∧ acc = ([x, y].take i).map fun c => sv (S [c]), iters_list, by walk_at "sz", ⟨rfl, rfl⟩, fun i acc σ' h => by rw [h.1]; exact p1, ?_, ?_⟩
    · intro Cl i v acc σ2 mc hv hJ hacc
      obtain ⟨rfl, rfl⟩ := hJ
      obtain ⟨c, hsc, hci, rfl⟩ : ∃ c, Sgn c ∧ [x, y][i]? = some c ∧ v = sv (S (twin c)) := by
        rcases i with _ | _ | i
        · exact ⟨x, hx, rfl, (Option.some.inj hv).symm⟩
        · exact ⟨y, hy, rfl, (Option.some.inj hv).symm⟩
        · cases hv
      obtain ⟨j, j1, j2, j3⟩ := sgn_at hsc
      refine ifs_one ?_
      repeat walk_at "w"
      refine o_inl pt ?_
      have hin : S (twin c) ∈ tab := List.mem_of_getElem? j1
      repeat walk_at "w"
      refine if_t (by simp [hin]) ?_
      repeat walk_at "w"
      refine m_list pt ?_ PySem.F.slot_list_index
      repeat walk_at "w"
      refine c_lindex pt j1 j2 (by decide) ?_
      refine ⟨got_str, o_getn j3 (by decide) ?_⟩
      refine ⟨rfl, ?_⟩
      rw [List.take_succ, hci, List.map_append]
      rfl
    · intro acc σ3 hJ D hD
      obtain ⟨rfl, rfl⟩ := hJ
      repeat walk_at "w"
      refine c_join (ys := [S [x], S [y]]) (Sto.upd_same _ _ _) (by simp [S_len]) ?_
      intro v' hv'
      exact ⟨hv', fun a z e => upd_fresh (pk a z e) hD⟩
end
section
def chN : List (List Nat) := [[], [0], [1], [2], [0, 1], [0, 2], [1, 2], [0, 1, 2]]
def sgnD (due : Nat) : List Nat := [0, 1, 2].filter fun c => [0, 1, 2].any fun d => tb due c d || tb due d c
def leftD (due : Nat) (C : List Nat) : List Nat := (sgnD due).filter fun c => !decide (c ∈ C)
def okrow (due : Nat) (ls r : List Nat) : Bool := ls.all fun a => ls.all fun c => !tb due a c || tb (fullW r) a c
def perms : List Nat → List (List Nat)
  | [] => [[]]
  | [a] => [[a]]
  | [a, c] => [[a, c], [c, a]]
  | [a, c, d] => [[a, c, d], [a, d, c], [c, a, d], [c, d, a], [d, a, c], [d, c, a]]
  | _ => []
def good (due : Nat) (w : List Nat) : Bool := (fullW w &&& due == due) && decide (w.length ≤ 6) && (decide (w.length = 0) || (mx (w.length - 1)).all fun m => !decide (m &&& due = due))
def chkF (due : Nat) : List (List Nat) → Bool
  | [] => true
  | C :: rest => if ((perms (leftD due C)).any (okrow due (leftD due C))) = false then chkF due rest else (perms (leftD due C)).all fun r => !okrow due (leftD due C) r || good due (C ++ r ++ C)
theorem chk_all : ((List.range 512).all fun d => chkF d chN) = true := by decide +kernel
theorem chk_one {due : Nat} (h : due < 512) : chkF due chN = true := List.all_eq_true.mp chk_all due (List.mem_range.mpr h)
def subs : List (List Nat) := [[], [0], [1], [2], [0, 1], [0, 2], [1, 2], [0, 1, 2]]
theorem filt_subs (p : Nat → Bool) : [0, 1, 2].filter p ∈ subs := by
  simp only [List.filter]
  cases p 0 <;> cases p 1 <;> cases p 2 <;> decide
theorem leftD_eq (due : Nat) (C : List Nat) : leftD due C = [0, 1, 2].filter fun c => (!decide (c ∈ C)) && ([0, 1, 2].any fun d => tb due c d || tb due d c) := by
  unfold leftD sgnD; rw [List.filter_filter]
theorem leftD_subs (due : Nat) (C : List Nat) : leftD due C ∈ subs := by rw [leftD_eq]; exact filt_subs _
theorem subs_nodup : ∀ l ∈ subs, l.Nodup ∧ ∀ c ∈ l, c < 3 := by decide
theorem perms_mem : ∀ ls ∈ subs, ∀ r ∈ all3, (∀ c, c < 3 → (c ∈ r ↔ c ∈ ls)) → r ∈ perms ls := by decide +kernel
theorem perms_all3 : ∀ ls ∈ subs, ∀ r ∈ perms ls, r ∈ all3 ∧ ∀ c ∈ r, c < 3 := by decide +kernel
theorem split_tb0 : ∀ r ∈ all3, ∀ i, i < 4 → ∀ a, a < 3 → ∀ c, c < 3 → (!decide (a ∈ r.take i) || !decide (c ∈ r.drop i) || tb (fullW r) a c) = true := by decide +kernel
theorem split_tb (r : List Nat) (hr : r ∈ all3) (i : Nat) (hi : i < 4) (a : Nat) (ha : a < 3) (c : Nat) (hc : c < 3) (h1 : a ∈ r.take i) (h2 : c ∈ r.drop i) : tb (fullW r) a c = true := by
  have := split_tb0 r hr i hi a ha c hc
  simpa [h1, h2] using this
def posR (r : List Nat) (v : Str) : Nat := r.findIdx fun c => decide (sS c = v)
theorem pos_tb : ∀ r ∈ all3, ∀ a, a < 3 → ∀ c, c < 3 → tb (fullW r) a c = true → posR r (sS a) < posR r (sS c) := by decide +kernel
section
variable {rs : List (Nat × Nat)} (hr : ∀ p ∈ rs, p.1 < 3 ∧ p.2 < 3)
include hr
theorem not_norow {C r : List Nat} (h : r ∈ perms (leftD (dueOf rs) C)) (ho : okrow (dueOf rs) (leftD (dueOf rs) C) r = true) : ¬ NoRow (rs.filter (inL (leftD (dueOf rs) C))) := by
  intro n
  refine n ⟨posR r, fun p hp => ?_⟩
  obtain ⟨h1, h2⟩ := List.mem_filter.mp hp
  unfold inL at h2
  simp only [Bool.and_eq_true, decide_eq_true_eq] at h2
  obtain ⟨l1, l2⟩ := hr p h1
  refine pos_tb r (perms_all3 _ (leftD_subs _ _) r h).1 _ l1 _ l2 ?_
  unfold okrow at ho
  have ho := List.all_eq_true.mp (List.all_eq_true.mp ho p.1 h2.1) p.2 h2.2
  rw [(tb_due hr l1 l2).mpr h1] at ho
  simpa using ho
theorem row_of {C : List Nat} {row : List Str} (h : Row (leftD (dueOf rs) C) (rs.filter (inL (leftD (dueOf rs) C))) row) : ∃ r ∈ perms (leftD (dueOf rs) C), row = r.map sS ∧ (∀ c ∈ r, c < 3) ∧ okrow (dueOf rs) (leftD (dueOf rs) C) r = true := by
  obtain ⟨h1, h2, h3⟩ := h
  obtain ⟨n1, n2⟩ := subs_nodup _ (leftD_subs (dueOf rs) C)
  generalize hls : leftD (dueOf rs) C = ls at *
  obtain ⟨r, hrow, hrl⟩ := pre_map (f := sS) (t := ls) (xs := row) (fun v hv => by
    obtain ⟨c, hc, e⟩ := List.mem_map.mp ((h2 v).mp hv)
    exact ⟨c, hc, e.symm⟩)
  subst hrow
  have r3 : ∀ c ∈ r, c < 3 := fun c hc => n2 c (hrl c hc)
  have rn : r.Nodup := by
    unfold List.Nodup at h1 ⊢
    exact (List.pairwise_map.mp h1).imp fun q e => q (by rw [e])
  have rin := in_all3 rn r3
  have rm : ∀ c, c < 3 → (c ∈ r ↔ c ∈ ls) := fun c hc => ⟨hrl c, fun h => by
    obtain ⟨d, hd, e⟩ := List.mem_map.mp ((h2 (sS c)).mpr (List.mem_map_of_mem h))
    rw [← sS_inj (r3 d hd) hc e]; exact hd⟩
  refine ⟨r, perms_mem _ (hls ▸ leftD_subs _ _) r rin rm, rfl, r3, ?_⟩
  unfold okrow
  refine List.all_eq_true.mpr fun a ha => List.all_eq_true.mpr fun c hc => ?_
  by_cases q : tb (dueOf rs) a c = true
  · have hp := (tb_due hr (n2 a ha) (n2 c hc)).mp q
    obtain ⟨l, r', e, hl, hr'⟩ := h3 (a, c) (List.mem_filter.mpr ⟨hp, by simp [inL, ha, hc]⟩)
    obtain ⟨r1, r2, rfl, rfl, rfl⟩ := List.map_eq_append_iff.mp e
    obtain ⟨a', ha', ea⟩ := List.mem_map.mp hl
    obtain ⟨c', hc', ec⟩ := List.mem_map.mp hr'
    have fa : a' = a := sS_inj (r3 a' (List.mem_append_left _ ha')) (n2 a ha) ea
    have fc : c' = c := sS_inj (r3 c' (List.mem_append_right _ hc')) (n2 c hc) ec
    subst fa; subst fc
    have hle : (r1 ++ r2).length ≤ 3 := len_sub (m := [0, 1, 2]) rn fun c hc => by
      have := r3 c hc
      rcases (lt3 (a := c) (by assumption)) with rfl | rfl | rfl <;> decide
    rw [split_tb _ rin r1.length (by rw [List.length_append] at hle; omega) _ (n2 _ ha) _ (n2 _ hc) (by rw [List.take_left]; exact ha') (by rw [List.drop_left]; exact hc')]
    simp
  · simp [q]
theorem pick {row : List Str} : ∀ (l : List (List Nat)) (i : Nat) (C : List Nat), chkF (dueOf rs) l = true → l[i]? = some C → (∀ j C', j < i → l[j]? = some C' → NoRow (rs.filter (inL (leftD (dueOf rs) C')))) →
    Row (leftD (dueOf rs) C) (rs.filter (inL (leftD (dueOf rs) C))) row → ∃ r, r ∈ all3 ∧ row = r.map sS ∧ (∀ c ∈ r, c < 3) ∧ good (dueOf rs) (C ++ r ++ C) = true
  | [], i, C, _, h, _, _ => by simp at h
  | C0 :: l, 0, C, hc, h, hp, hrow => by
    simp only [List.getElem?_cons_zero, Option.some.injEq] at h
    subst h
    obtain ⟨r, h1, h2, h3, h4⟩ := row_of hr hrow
    unfold chkF at hc
    rw [if_neg (by rw [Bool.not_eq_false]; exact List.any_eq_true.mpr ⟨r, h1, h4⟩)] at hc
    have := List.all_eq_true.mp hc r h1
    rw [h4] at this
    exact ⟨r, (perms_all3 _ (leftD_subs _ _) r h1).1, h2, h3, by simpa using this⟩
  | C0 :: l, i + 1, C, hc, h, hp, hrow => by
    unfold chkF at hc
    have n0 := hp 0 C0 (Nat.zero_lt_succ _) rfl
    have : ((perms (leftD (dueOf rs) C0)).any (okrow (dueOf rs) (leftD (dueOf rs) C0))) = false := by
      rw [← Bool.not_eq_true]
      intro q
      obtain ⟨r, h1, h4⟩ := List.any_eq_true.mp q
      exact not_norow hr h1 h4 n0
    rw [if_pos this] at hc
    exact pick l i C hc (by simpa using h) (fun j C' hj hC' => hp (j + 1) C' (by omega) (by simpa using hC')) hrow
end
theorem good_least {due : Nat} (hd : due < 512) {w : List Nat} (hw : ∀ c ∈ w, c < 3) (h : good due w = true) : w.length ≤ 6 ∧ (runW due w / 128 = due) ∧ Least due w.length ∧ fullW w &&& due = due := by
  unfold good at h
  simp only [Bool.and_eq_true, decide_eq_true_eq, beq_iff_eq, Bool.or_eq_true] at h
  obtain ⟨⟨h1, h2⟩, h3⟩ := h
  refine ⟨h2, by rw [run_full hd hw]; exact h1, least_of hd h2 ⟨rfl, hw⟩ h1 fun hn m hm => ?_, h1⟩
  rcases h3 with h3 | h3
  · omega
  · have := List.all_eq_true.mp h3 m hm
    simpa using this
theorem last_row {rs : List (Nat × Nat)} : ¬ NoRow (rs.filter (inL (leftD (dueOf rs) [0, 1, 2]))) := by
  have : leftD (dueOf rs) [0, 1, 2] = [] := by
    rw [leftD_eq]; simp [List.filter]
  rw [this]
  intro n
  refine n ⟨fun _ => 0, fun p hp => ?_⟩
  have := (List.mem_filter.mp hp).2
  simp [inL] at this
theorem tb_of {due d a c : Nat} (h : d &&& due = due) (k : tb due a c = true) : tb d a c = true := by
  unfold tb at k ⊢
  rw [← h, Nat.testBit_and, Bool.and_eq_true] at k
  exact k.1
end
section
theorem contains1 (x : Str) (c : Nat) : Txt.contains x (S [c]) = decide (c ∈ L x) := by
  have hs : ∀ a, Builtin.Str.subAt x (S [c]) a = ((L x)[a]? == some c) := fun a => by rw [StrLaws.subAt_eq]; exact take1
  unfold Txt.contains
  rcases StrLaws.occ_head x (S [c]) 1 (Nat.le_refl _) with ⟨h0, hn⟩ | ⟨i, r, h0, ha, _⟩
  · rw [h0]
    show (!true) = _
    rw [Bool.not_true, Eq.comm, decide_eq_false_iff_not]
    intro hm
    obtain ⟨i, hi, e⟩ := List.mem_iff_getElem.mp hm
    refine hn i ⟨?_, ?_⟩
    · rw [S_len]; rw [L_len] at hi; simp; omega
    · rw [hs, List.getElem?_eq_getElem hi, e]; simp
  · rw [h0]
    show (!false) = _
    rw [Bool.not_false, Eq.comm, decide_eq_true_eq]
    have := ha.2
    rw [hs] at this
    have := eq_of_beq this
    exact List.mem_of_getElem? this
theorem sgS (a : Nat) : Sgn (sg a) := by
  match a with
  | 0 => exact .inl rfl
  | 1 => exact .inr (.inl rfl)
  | _ + 2 => exact .inr (.inr rfl)
def patt (k a c : Nat) : List Nat := List.replicate k 42 ++ [sg a] ++ List.replicate k 42 ++ [sg c] ++ List.replicate k 42
def psR (a c : Nat) : List (Option Str) := [some (S (twin (sg a))), none, some (S (twin (sg c))), none]
def grp (a : Nat) : Str := S (L "(?>.*?" ++ L (cat [S (twin (sg a))]) ++ L ")")
def outR (a c : Nat) : List Str := [grp a, grp c, ".*"]
theorem patt_pieces {k a c : Nat} (hk : k = 1 ∨ k = 2) (ha : a < 3) (hc : c < 3) (st : Addr) : pieces (.ref st) (patt k a c) = (none :: psR a c).map (vp st) := by
  rcases hk with rfl | rfl <;> rcases (lt3 (a := a) (by assumption)) with rfl | rfl | rfl <;> rcases (lt3 (a := c) (by assumption)) with rfl | rfl | rfl <;>
    simp [pieces, patt, pcs, psR, vp, escS, esc, twin, sg, sv, List.replicate]
theorem patt_jn (a c : Nat) : Jn (none :: psR a c) (outR a c) := Jn.more _ [] _ _ (Jn.more _ [] _ _ Jn.last)
theorem patt_text {a c : Nat} (ha : a < 3) (hc : c < 3) : S (L "(?s:" ++ L (cat (outR a c)) ++ L ")\\Z") = S (ruleText (sg a) (sg c)) := by
  rcases (lt3 (a := a) (by assumption)) with rfl | rfl | rfl <;> rcases (lt3 (a := c) (by assumption)) with rfl | rfl | rfl <;> decide +kernel
theorem patt_mem {k a c : Nat} (hk : k = 1 ∨ k = 2) : ∀ x ∈ patt k a c, x = 42 ∨ x = 34 ∨ x = 46 ∨ x = 124 ∨ x = 97 := by
  intro x hx
  have h : x = 42 ∨ x = sg a ∨ x = sg c := by
    rcases hk with rfl | rfl <;> simp [patt, List.replicate] at hx <;> omega
  rcases h with rfl | rfl | rfl
  · exact .inl rfl
  · rcases sgS a with h | h | h <;> simp [h]
  · rcases sgS c with h | h | h <;> simp [h]
theorem patt_len {k a c : Nat} (hk : k = 1 ∨ k = 2) : (patt k a c).length ≤ 8 := by rcases hk with rfl | rfl <;> simp [patt]
theorem psR_wts (a c : Nat) : wts (psR a c) ≤ 4 := by
  rcases sgS a with h | h | h <;> rcases sgS c with h' | h' | h' <;> simp [psR, h, h'] <;> decide
theorem choices_eq : choices = chN.map fun C => S (C.map sg) := by decide +kernel
theorem chN_lt : ∀ C ∈ chN, ∀ c ∈ C, c < 3 := by decide
theorem find_ok0 : ∀ C ∈ chN, ∀ r ∈ all3, ∀ a, a < 3 → ∀ c, c < 3 → (!tb (fullW (C ++ r ++ C)) a c || (decide (0 ≤ Txt.find (S ((C ++ r ++ C).map sg)) (S [sg a])) && decide (Txt.find (S ((C ++ r ++ C).map sg)) (S [sg a]) < Txt.rfind (S ((C ++ r ++ C).map sg)) (S [sg c])))) = true := by decide +kernel
theorem find_ok {C r : List Nat} (hC : C ∈ chN) (hr : r ∈ all3) {a c : Nat} (ha : a < 3) (hc : c < 3) (h : tb (fullW (C ++ r ++ C)) a c = true) : 0 ≤ Txt.find (S ((C ++ r ++ C).map sg)) (S [sg a]) ∧ Txt.find (S ((C ++ r ++ C).map sg)) (S [sg a]) < Txt.rfind (S ((C ++ r ++ C).map sg)) (S [sg c]) := by
  have := find_ok0 C hC r hr a ha c hc
  rw [h, Bool.not_true, Bool.false_or, Bool.and_eq_true, decide_eq_true_eq, decide_eq_true_eq] at this
  exact this
theorem sg_rules {rs : List (Nat × Nat)} (hr : ∀ p ∈ rs, p.1 < 3 ∧ p.2 < 3) : ([0, 1, 2].filter fun c => decide (sg c ∈ L (cat (rs.map rv)))) = sgnD (dueOf rs) := by
  unfold sgnD
  apply List.filter_congr
  intro c hc
  have hc3 : c < 3 := by
    rcases List.mem_cons.mp hc with rfl | hc
    · decide
    · rcases List.mem_cons.mp hc with rfl | hc
      · decide
      · rw [List.mem_singleton.mp hc]; decide
  have h1 : sg c ∈ L (cat (rs.map rv)) ↔ ∃ p ∈ rs, p.1 = c ∨ p.2 = c := by
    unfold cat
    rw [L_S, List.mem_flatMap]
    constructor
    · rintro ⟨v, hv, hm⟩
      obtain ⟨p, hp, rfl⟩ := List.mem_map.mp hv
      have hm : sg c ∈ [sg p.1, sg p.2] := hm
      rcases List.mem_cons.mp hm with h | h
      · exact ⟨p, hp, .inl (sg_inj hc3 (hr p hp).1 h).symm⟩
      · exact ⟨p, hp, .inr (sg_inj hc3 (hr p hp).2 (List.mem_singleton.mp h)).symm⟩
    · rintro ⟨p, hp, h⟩
      refine ⟨rv p, List.mem_map_of_mem hp, ?_⟩
      show sg c ∈ [sg p.1, sg p.2]
      rcases h with rfl | rfl <;> simp
  have h2 : ([0, 1, 2].any fun d => tb (dueOf rs) c d || tb (dueOf rs) d c) = true ↔ ∃ p ∈ rs, p.1 = c ∨ p.2 = c := by
    rw [List.any_eq_true]
    have d3 : ∀ d ∈ [0, 1, 2], d < 3 := by decide
    constructor
    · rintro ⟨d, hd, h⟩
      rcases Bool.or_eq_true _ _ ▸ h with h | h
      · exact ⟨_, (tb_due hr hc3 (d3 d hd)).mp h, .inl rfl⟩
      · exact ⟨_, (tb_due hr (d3 d hd) hc3).mp h, .inr rfl⟩
    · rintro ⟨⟨p1, p2⟩, hp, h⟩
      have m3 : ∀ d, d < 3 → d ∈ [0, 1, 2] := by decide
      rcases h with rfl | rfl
      · exact ⟨p2, m3 _ (hr _ hp).2, by rw [(tb_due hr hc3 (hr _ hp).2).mpr hp]; rfl⟩
      · exact ⟨p1, m3 _ (hr _ hp).1, by rw [(tb_due hr (hr _ hp).1 hc3).mpr hp, Bool.or_true]⟩
  by_cases q : ∃ p ∈ rs, p.1 = c ∨ p.2 = c
  · rw [h2.mpr q, decide_eq_true (h1.mpr q)]
  · rw [Bool.eq_false_iff.mpr fun h => q (h2.mp h), decide_eq_false fun h => q (h1.mp h)]
theorem cont_choice {C : List Nat} (hC : ∀ c ∈ C, c < 3) {c : Nat} (hc : c < 3) : Txt.contains (S (C.map sg)) (S [sg c]) = decide (c ∈ C) := by
  rw [contains1]
  congr 1
  rw [L_S, List.mem_map, eq_iff_iff]
  exact ⟨fun ⟨d, hd, e⟩ => by rw [← sg_inj (hC d hd) hc e]; exact hd, fun h => ⟨c, h, rfl⟩⟩
def ruleOf (x : Int) : Nat × Nat := ((x % 9).toNat / 3, (x % 3).toNat)
theorem ruleOf_lt (x : Int) : (ruleOf x).1 < 3 ∧ (ruleOf x).2 < 3 := by
  unfold ruleOf; simp only; omega
theorem fmod9 (x : Int) : Int.fmod x 9 = ((x % 9).toNat : Int) := by rw [Int.fmod_eq_emod_of_nonneg _ (by decide)]; omega
theorem fmod3 (x : Int) : Int.fmod x 3 = ((x % 3).toNat : Int) := by rw [Int.fmod_eq_emod_of_nonneg _ (by decide)]; omega
theorem star_no (x : Int) : 1 + Int.fmod x 2 = 1 ∨ 1 + Int.fmod x 2 = 2 := by rw [Int.fmod_eq_emod_of_nonneg _ (by decide)]; omega
theorem sg_at {c : Nat} (h : c < 3) : (L "\".|")[c]? = some (sg c) := by
  rcases (lt3 (a := c) (by assumption)) with rfl | rfl | rfl <;> rfl
end
section
theorem Fm.nl {k : Nat} {σB σ : Sto} {L : Addr} {vs : List (Option Value)} (h : Fm k σB σ L vs) {a : Addr} {x : List Value} (e : σ a = some (.list x)) : ∀ i : Nat, i < k → a ≠ L + 1 + i := fun i hi q => by
  obtain ⟨v, hv⟩ : ∃ v, vs[i]? = some v := ⟨_, List.getElem?_eq_getElem (by rw [h.len]; exact hi)⟩
  rw [q, h.cl i v hv] at e
  cases e
theorem keep2 {σ : Sto} {a R c : Addr} {y z u : AO} (h : σ a = some y) (hR : σ R = none) (hc : a ≠ c) : ((σ.upd R z).upd c u) a = some y := by
  rw [Sto.upd_ne hc]; exact upd_fresh h hR
theorem cat_sS : ∀ r : List Nat, cat (r.map sS) = S (r.map sg)
  | [] => rfl
  | c :: r => by
    show S (L (sS c) ++ (r.map sS).flatMap L) = S (sg c :: r.map sg)
    have e : (r.map sS).flatMap L = r.map sg := congrArg L (cat_sS r)
    rw [e]; rfl
theorem sum_sS : ∀ r : List Nat, ((r.map sS).map (·.length)).sum = r.length
  | [] => rfl
  | c :: r => by
    have := sum_sS r
    simp only [List.map_cons, List.sum_cons, List.length_cons, this]
    show 1 + r.length = _
    omega
noncomputable def ob_law (w : World) : {o // (K1 w).lookup 262 = some o} := ⟨_, rfl⟩
noncomputable def fd_law (w : World) : {fd // (ob_law w).1.data = .func fd} := ⟨_, rfl⟩
noncomputable def bd_law (w : World) : {b // (fd_law w).1.body = .stmts b} := ⟨_, rfl⟩
noncomputable def cx_law (w : World) (h₀ : Heap) (A : Around) (L : Addr) : Cx := ⟨prog1, w, h₀, A, callEnvC (fd_law w).1 L 262, botE⟩
inductive LawA (ns1 : List Int) (D R N : Addr) (σB : Sto) (L0 : Addr) (i : Nat) (m' : Map) (σ' : Sto) : Prop
  | mk (q1 : m' (Str.ofString "drawn") = some (.ref D)) (q2 : Fm 3 σB σ' L0 [some (.ref R), none, none]) (q3 : σ' N = some (.list (ns1.map nv))) (q4 : σ' D = some (.list (ns1.map fun x => sv (rv (ruleOf x))))) (q5 : σ' R = some (.list ((ns1.take i).map fun x => sv (rv (ruleOf x))))) : LawA ns1 D R N σB L0 i m' σ'
inductive LawB (rs : List (Nat × Nat)) (R G Ch L0 : Addr) (σB : Sto) (i : Nat) (m' : Map) (σ' : Sto) : Prop
  | mk (c1) (q1 : m' (Str.ofString "signs") = some (.ref G)) (q2 : Fm 3 σB σ' L0 [some (.ref R), c1, none]) (q3 : σ' R = some (.list ((rs.map rv).map sv))) (q4 : σ' G = some (.list ((sgnD (dueOf rs)).map fun c => sv (sS c)))) (q5 : σ' Ch = some (.list (choices.map sv))) (q6 : ∀ j C', j < i → chN[j]? = some C' → NoRow (rs.filter (inL (leftD (dueOf rs) C')))) : LawB rs R G Ch L0 σB i m' σ'
set_option maxHeartbeats 4000000 in
theorem fn_law {w : World} {h₀ : Heap} (b : Bs w h₀) {σ : Sto} {a : Addr} {its : Array Value} {ns : List Int} (hz : ns.length ≤ 63) (ha : h₀.IsList a its) (hi : its.toList.map er = ns.map nv) : Fn prog1 w h₀ 46 (.ref 262) [.ref a] (fun r σ' => r = .bool true) botF σ := by
  refine fn_plainC (o := (ob_law w).1) (fd := (fd_law w).1) (body := (bd_law w).1) (names := [("script" : Str)]) (b.X 262 _ (ob_law w).2) (fd_law w).2 (bd_law w).2 (by rfl) b.nolimit (b.code (c := 261) (by rfl) (by rfl) (by rfl)) ?_ (by intro _; rfl) (by intro _; show [("name" : Str), "choice", "rules"].Nodup; decide) ?_
  · intro vals hv
    obtain ⟨a, rfl, _⟩ := inv1 hv
    rfl
  · intro Ar L0 room hfr hL hc
    have hc2 : ∀ i : Nat, i < 3 → σ (L0 + 1 + i) = none ∧ L0 + 1 + i ≠ L0 := fun i hi => by
      have := hc
      rcases (lt3 (a := i) (by assumption)) with rfl | rfl | rfl
      · exact hc (("rules" : Str), L0 + 1) (by show _ ∈ [_, _, _]; simp)
      · exact hc (("choice" : Str), L0 + 1 + 1) (by show _ ∈ [_, _, _]; simp)
      · exact hc (("name" : Str), L0 + 1 + 1 + 1) (by show _ ∈ [_, _, _]; simp)
    show (cx_law w h₀ Ar L0).W (execs (bd_law w).1 (cx_law w h₀ Ar L0).env) _ _ (((σ.upd (L0 + 1 + 0) (.cell none)).upd (L0 + 1 + 1) (.cell none)).upd (L0 + 1 + 2) (.cell none))
    generalize hσB : Sto.upd (Sto.upd (Sto.upd σ _ _) _ _) _ _ = σB
    have nn : ∀ i j : Nat, i ≠ j → L0 + 1 + i ≠ L0 + 1 + j := fun i j h q => h (Nat.add_left_cancel (show (L0 + 1 : Nat) + i = L0 + 1 + j from q))
    have e0 : σB (L0 + 1 + 0) = some (.cell none) := by rw [← hσB, Sto.upd_ne (nn _ _ (by decide)), Sto.upd_ne (nn _ _ (by decide)), Sto.upd_same]
    have e1 : σB (L0 + 1 + 1) = some (.cell none) := by rw [← hσB, Sto.upd_ne (nn _ _ (by decide)), Sto.upd_same]
    have e2 : σB (L0 + 1 + 2) = some (.cell none) := by rw [← hσB, Sto.upd_same]
    have fm : Fm 3 σB σB L0 [none, none, none] := by
      refine ⟨rfl, fun i hi => ?_, fun a y e _ => e, fun i v e => ?_⟩
      · rcases (lt3 (a := i) (by assumption)) with rfl | rfl | rfl
        · rw [e0]; exact fun c => nomatch c
        · rw [e1]; exact fun c => nomatch c
        · rw [e2]; exact fun c => nomatch c
      · have hi : i < 3 := (List.getElem?_eq_some_iff.mp e).1
        rcases (lt3 (a := i) (by assumption)) with rfl | rfl | rfl <;> cases e <;> assumption
    clear hσB e0 e1 e2
    have X : (K1 w).In (cx_law w h₀ Ar L0).h₀ := b.X
    have hp := b.past
    have hh : Ar.handled = none := room.2.2 (by decide)
    have hu : Ar.units < cLine := by have := room.2.1; unfold cLine; omega
    have hzip : GV (cx_law w h₀ Ar L0).h₀ "zip" (.type "zip") := b.built (by rfl) (by rfl) (by decide)
    have hlen : GV (cx_law w h₀ Ar L0).h₀ "len" (.builtin "len") := b.built (by rfl) (by rfl) (by decide)
    have hsig : GV (cx_law w h₀ Ar L0).h₀ "_law_signs" (.str "\".|" 760) := b.glob (by rfl)
    have hgrd : GV (cx_law w h₀ Ar L0).h₀ "_law_read" (.ref 242) := b.glob (by rfl)
    have hgrl : GV (cx_law w h₀ Ar L0).h₀ "_law_rule" (.ref 247) := b.glob (by rfl)
    have hgtr : GV (cx_law w h₀ Ar L0).h₀ "translate" (.ref 170) := b.glob (by rfl)
    have hgch : GV (cx_law w h₀ Ar L0).h₀ "_law_choices" (.ref 235) := b.glob (by rfl)
    have hgor : GV (cx_law w h₀ Ar L0).h₀ "_law_order" (.ref 252) := b.glob (by rfl)
    have hgle : GV (cx_law w h₀ Ar L0).h₀ "_law_least" (.ref 257) := b.glob (by rfl)
    have rest : ∀ (N : Addr) (σ1 : Sto) (m1 : Map) (ns1 : List Int), σ1 N = some (.list (ns1.map nv)) → m1 "numbers" = some (.ref N) → ns1.length ≤ 63 → Fm 3 σB σ1 L0 [none, none, none] →
        (cx_law w h₀ Ar L0).W (execs (List.drop 2 (bd_law w).1) (cx_law w h₀ Ar L0).env) (fun f _ σ' => er (flowVal f) = .bool true) m1 σ1 := by
      intro N σ1 m1 ns1 hN hm1 hz1 fm1
      show (cx_law w h₀ Ar L0).W (execs (_ :: _) (cx_law w h₀ Ar L0).env) _ _ _
      refine s_cons ?_
      refine s_asgcomp (cl := []) (by rfl) ?_
      repeat walk_at "w"
      refine ⟨ns1.map nv, fun σ' => σ' N = some (.list (ns1.map nv)), fun i acc σ' => σ' = σ1 ∧ acc = ((ns1.take i).map fun x => sv (rv (ruleOf x))), iters_list, by rw [List.length_map, sizeLine_eq]; omega, ⟨rfl, rfl⟩, fun i acc σ' h => by rw [h.1]; exact hN, ?_, ?_⟩
      · rintro Cl i v acc σ2 mc hv ⟨h2, rfl⟩ hacc
        subst h2
        rw [List.getElem?_map, Option.map_eq_some_iff] at hv
        obtain ⟨x, hx, rfl⟩ := hv
        have hx3 := ruleOf_lt x
        have tk : (ns1.take (i + 1)).map (fun x => sv (rv (ruleOf x))) = (ns1.take i).map (fun x => sv (rv (ruleOf x))) ++ [sv (rv (ruleOf x))] := by
          rw [List.take_add_one, hx, List.map_append]; rfl
        refine ifs_nil ?_
        repeat walk_at "w"
        refine o_mod (by decide) ?_
        rw [fmod9]
        repeat walk_at "w"
        refine o_divn (a := (x % 9).toNat) (b := 3) (by decide) (by decide) ?_
        repeat walk_at "w"
        refine ⟨got_str, o_getn (i := (x % 9).toNat / 3) (c := sg (ruleOf x).1) (sg_at hx3.1) (by rw [sizeLine_eq]; decide) ?_⟩
        repeat walk_at "w"
        refine o_mod (by decide) ?_
        rw [fmod3]
        repeat walk_at "w"
        refine ⟨got_str, o_getn (i := (x % 3).toNat) (c := sg (ruleOf x).2) (sg_at hx3.2) (by rw [sizeLine_eq]; decide) ?_⟩
        repeat walk_at "w"
        exact ⟨rfl, by rw [tk]; rfl⟩
      · rintro acc σ2 ⟨h2, rfl⟩ D hD
        subst h2
        rw [List.length_map, List.take_length]
        have hN2 := upd_fresh hN hD (w := .list (ns1.map fun x => sv (rv (ruleOf x))))
        have fm2 := fm1.fresh hD (.list (ns1.map fun x => sv (rv (ruleOf x))))
        have hD2 : (σ2.upd D (.list (ns1.map fun x => sv (rv (ruleOf x))))) D = some (.list (ns1.map fun x => sv (rv (ruleOf x)))) := Sto.upd_same _ _ _
        generalize Sto.upd σ2 D _ = σ3 at hN2 fm2 hD2 ⊢
        repeat walk_at "w"
        refine ⟨by walk_at "sz", fun R hR => ?_⟩
        have fm3 := (fm2.fresh hR (.list [])).put (i := 0) (by decide) (.ref R)
        have hRn := fm2.dom hR
        have hRne := fm2.ne hRn
        have hNn : N ≠ R := fun q => by rw [← q, hN2] at hR; cases hR
        have hDn : D ≠ R := fun q => by rw [← q, hD2] at hR; cases hR
        refine put_cell (c := L0 + 1 + 0) (v₀ := none) (by rfl) ((fm2.fresh hR (.list [])).cl 0 _ rfl) ?_
        have hN3 := keep2 hN2 hR (z := .list []) (u := .cell (some (.ref R))) (fm2.nl hN2 0 (by decide))
        have hD3 := keep2 hD2 hR (z := .list []) (u := .cell (some (.ref R))) (fm2.nl hD2 0 (by decide))
        have hR3 : ((σ3.upd R (.list [])).upd (L0 + 1 + 0) (.cell (some (.ref R)))) R = some (.list []) := by rw [Sto.upd_ne (hRne 0 (by decide)), Sto.upd_same]
        generalize Sto.upd (Sto.upd σ3 R _) (L0 + 1 + 0) _ = σ4 at hN3 hD3 hR3 fm3 ⊢
        have rlt : ∀ p ∈ ns1.map ruleOf, p.1 < 3 ∧ p.2 < 3 := fun p hp => by
          obtain ⟨x, _, rfl⟩ := List.mem_map.mp hp
          exact ruleOf_lt x
        refine s_cons ?_
        refine s_forzip hh ?_
        repeat walk_at "w"
        refine c_zip hN3 hD3 fun n σ5 hzi hsub hnone => ?_
        refine ⟨n, N, D, σ4, ns1.map nv, ns1.map fun x => sv (rv (ruleOf x)), LawA ns1 D R N σB L0,
          rfl, hzi, hsub, hnone, by rw [List.length_map, List.length_map], ⟨rfl, fm3, hN3, hD3, hR3⟩, fun i m σ h => by obtain ⟨_, _, y, z, _⟩ := h; exact ⟨y, z⟩, ?_, ?_⟩
        · rintro i v u m₁ σ6 hv hu1 ⟨hm, fm4, hN4, hD4, hR4⟩
          rw [List.getElem?_map, Option.map_eq_some_iff] at hv hu1
          obtain ⟨x, hx, rfl⟩ := hv
          obtain ⟨x', hx', rfl⟩ := hu1
          rw [hx] at hx'
          cases hx'
          repeat walk_at "w"
          refine o_div (by decide) (noPylong _ (j := 9) (by decide)) ?_
          repeat walk_at "w"
          refine o_mod (by decide) ?_
          repeat walk_at "w"
          obtain ⟨k, hk, hke⟩ : ∃ k : Nat, (k = 1 ∨ k = 2) ∧ 1 + Int.fmod (Int.fdiv x 9) 2 = (k : Int) := by
            rcases star_no (Int.fdiv x 9) with h | h
            · exact ⟨1, .inl rfl, h⟩
            · exact ⟨2, .inr rfl, h⟩
          rw [hke]
          refine o_mul12 (n := (k : Int)) (by omega) (by rfl) ?_
          have hst : (List.replicate (k : Int).toNat (L "*")).flatten = List.replicate k 42 := by
            rcases hk with rfl | rfl <;> rfl
          rw [hst]
          repeat walk_at "w"
          have hk2 : k ≤ 2 := by omega
          refine ⟨got_str, o_getn (i := 0) (c := sg (ruleOf x).1) (by rfl) (by walk_at "sz") ?_⟩
          refine o_adds (by rw [L_S, L_S, sizeLine_eq, List.length_replicate, List.length_singleton]; omega) ?_
          repeat walk_at "w"
          refine o_adds (by rw [L_S, L_S, L_S, sizeLine_eq, List.length_append, List.length_replicate]; simp; omega) ?_
          repeat walk_at "w"
          refine ⟨got_str, o_getn (i := 1) (c := sg (ruleOf x).2) (by rfl) (by walk_at "sz") ?_⟩
          refine o_adds (by simp only [L_S, sizeLine_eq, List.length_append, List.length_replicate, List.length_singleton]; omega) ?_
          repeat walk_at "w"
          refine o_adds (by simp only [L_S, sizeLine_eq, List.length_append, List.length_replicate, List.length_singleton]; omega) ?_
          have hpe : S (L (S (L (S (L (S (L (S (List.replicate k 42)) ++ L (S [sg (ruleOf x).1]))) ++ L (S (List.replicate k 42)))) ++ L (S [sg (ruleOf x).2]))) ++ L (S (List.replicate k 42))) = S (patt k (ruleOf x).1 (ruleOf x).2) := rfl
          rw [hpe]
          have hpl := patt_len (a := (ruleOf x).1) (c := (ruleOf x).2) hk
          repeat walk_at "w"
          refine call_fn (k := 45) (Room.le room (by decide)) (Fn.mono (fn_lrd b (l := patt k (ruleOf x).1 (ruleOf x).2) (by omega)) fun r σ7 q => ?_)
          obtain ⟨V, rfl, hV, rfl⟩ := q
          have fm5 := fm4.fresh hV (.list [sv (S (patt k (ruleOf x).1 (ruleOf x).2)), sv (S (patt k (ruleOf x).1 (ruleOf x).2))])
          have hN5 := upd_fresh hN4 hV (w := .list [sv (S (patt k (ruleOf x).1 (ruleOf x).2)), sv (S (patt k (ruleOf x).1 (ruleOf x).2))])
          have hD5 := upd_fresh hD4 hV (w := .list [sv (S (patt k (ruleOf x).1 (ruleOf x).2)), sv (S (patt k (ruleOf x).1 (ruleOf x).2))])
          have hR5 := upd_fresh hR4 hV (w := .list [sv (S (patt k (ruleOf x).1 (ruleOf x).2)), sv (S (patt k (ruleOf x).1 (ruleOf x).2))])
          have hV5 : (σ6.upd V (.list [sv (S (patt k (ruleOf x).1 (ruleOf x).2)), sv (S (patt k (ruleOf x).1 (ruleOf x).2))])) V = some (.list ([S (patt k (ruleOf x).1 (ruleOf x).2), S (patt k (ruleOf x).1 (ruleOf x).2)].map sv)) := Sto.upd_same _ _ _
          generalize Sto.upd σ6 V _ = σ8 at fm5 hN5 hD5 hR5 hV5 ⊢
          repeat walk_at "w"
          refine ⟨by walk_at "sz", fun V2 hV2 => ?_⟩
          have fm6 := fm5.fresh hV2 (.list ([S (patt k (ruleOf x).1 (ruleOf x).2), S (patt k (ruleOf x).1 (ruleOf x).2)].map sv))
          have hN6 := upd_fresh hN5 hV2 (w := .list ([S (patt k (ruleOf x).1 (ruleOf x).2), S (patt k (ruleOf x).1 (ruleOf x).2)].map sv))
          have hD6 := upd_fresh hD5 hV2 (w := .list ([S (patt k (ruleOf x).1 (ruleOf x).2), S (patt k (ruleOf x).1 (ruleOf x).2)].map sv))
          have hR6 := upd_fresh hR5 hV2 (w := .list ([S (patt k (ruleOf x).1 (ruleOf x).2), S (patt k (ruleOf x).1 (ruleOf x).2)].map sv))
          have hV6 := upd_fresh hV5 hV2 (w := .list ([S (patt k (ruleOf x).1 (ruleOf x).2), S (patt k (ruleOf x).1 (ruleOf x).2)].map sv))
          have hW6 : (σ8.upd V2 (.list ([S (patt k (ruleOf x).1 (ruleOf x).2), S (patt k (ruleOf x).1 (ruleOf x).2)].map sv))) V2 = some (.list ([S (patt k (ruleOf x).1 (ruleOf x).2), S (patt k (ruleOf x).1 (ruleOf x).2)].map sv)) := Sto.upd_same _ _ _
          show op2 _ _ _ _ _ _ (σ8.upd V2 (.list ([S (patt k (ruleOf x).1 (ruleOf x).2), S (patt k (ruleOf x).1 (ruleOf x).2)].map sv)))
          generalize Sto.upd σ8 V2 _ = σ9 at fm6 hN6 hD6 hR6 hV6 hW6 ⊢
          refine o_nels hu hV6 hW6 ?_
          repeat walk_at "w"
          refine if_f (by simp) ?_
          have cRules := fm6.cl 0 _ rfl
          repeat walk_at "w"
          refine m_list hR6 ?_ PySem.F.slot_list_append
          repeat walk_at "w"
          refine ⟨got_list hV6, o_getl (i := 0) (v := sv (S (patt k (ruleOf x).1 (ruleOf x).2))) hV6 (by decide) rfl ?_⟩
          repeat walk_at "w"
          have hx3 := ruleOf_lt x
          refine call_fn (k := 45) (Room.le room (by decide)) (Fn.mono (fn_tra b (patt_mem hk) (by omega) (patt_pieces hk hx3.1 hx3.2) (patt_jn _ _) (by show 4 ≤ 1000; decide) (by have := psR_wts (ruleOf x).1 (ruleOf x).2; omega)) fun r σ10 q => ?_)
          obtain ⟨rfl, k10⟩ := q
          rw [patt_text hx3.1 hx3.2]
          repeat walk_at "w"
          refine call_fn (k := 2) (Room.le room (by decide)) (Fn.mono (fn_lrl b (sgS _) (sgS _)) fun r σ11 q => ?_)
          obtain ⟨rfl, k11⟩ := q
          have sup : ∀ a y, σ9 a = some y → σ11 a = some y := fun a y e => k11 _ _ (k10 _ _ e)
          have fm7 := fm6.sup sup
          have hR7 := sup _ _ hR6
          repeat walk_at "w"
          refine c_append hR7 (by rw [List.length_map, List.length_take, sizeLine_eq]; omega) ?_
          have fm8 := fm7.turn (a := R) hRn (.list ((ns1.take i).map (fun x => sv (rv (ruleOf x))) ++ [sv (S [sg (ruleOf x).1, sg (ruleOf x).2])]))
          have tk : (ns1.take (i + 1)).map (fun x => sv (rv (ruleOf x))) = (ns1.take i).map (fun x => sv (rv (ruleOf x))) ++ [sv (rv (ruleOf x))] := by
            rw [List.take_add_one, hx, List.map_append]; rfl
          repeat walk_at "w"
          refine ⟨hm, fm8, by rw [Sto.upd_ne hNn]; exact sup _ _ hN6, by rw [Sto.upd_ne hDn]; exact sup _ _ hD6, by rw [Sto.upd_same, tk]⟩
        · rintro m₁ σ6 ⟨hm, fm4, hN4, hD4, hR4⟩
          rw [List.length_map, List.take_length] at hR4
          generalize hrs : ns1.map ruleOf = rs at rlt
          have erl : (ns1.map fun x => sv (rv (ruleOf x))) = rs.map fun p => sv (rv p) := by rw [← hrs, List.map_map]; rfl
          rw [erl] at hR4 hD4
          have hrl : rs.length ≤ 63 := by rw [← hrs, List.length_map]; exact hz1
          have erl2 : (rs.map fun p => sv (rv p)) = (rs.map rv).map sv := by rw [List.map_map]; rfl
          have cRules := fm4.cl 0 _ rfl
          repeat walk_at "w"
          refine o_nels (xs := rs.map rv) (ys := rs.map rv) hu (by rw [← erl2]; exact hR4) (by rw [← erl2]; exact hD4) ?_
          repeat walk_at "w"
          refine if_f (by simp) ?_
          repeat walk_at "w"
          refine s_asgcomp (cl := [("rules", L0 + 1 + 0)]) (by rfl) ?_
          repeat walk_at "w"
          have hR5 : σ6 R = some (.list ((rs.map rv).map sv)) := by rw [← erl2]; exact hR4
          have hsum : ((rs.map rv).map (·.length)).sum = 2 * rs.length := by
            clear hR5 hR4 hD4 hrs erl hrl erl2 rlt
            induction rs with
            | nil => rfl
            | cons p r ih =>
              simp only [List.map_cons, List.sum_cons, List.length_cons, ih]
              show 2 + _ = _
              omega
          have sgl : ∀ c ∈ [0, 1, 2], c < 3 := by decide
          refine ⟨[0, 1, 2].map fun c => sv (sS c), fun _ => True, fun i acc σ' => σ' = σ6 ∧ acc = (([0, 1, 2].take i).filter fun c => decide (sg c ∈ L (cat (rs.map rv)))).map fun c => sv (sS c), iters_str hh (x := "\".|") (by decide +kernel), by rw [List.length_map, sizeLine_eq]; decide, ⟨rfl, rfl⟩, fun _ _ _ _ => trivial, ?_, ?_⟩
          · rintro Cl i v acc σ' mc hv ⟨h2, rfl⟩ hacc
            subst h2
            rw [List.getElem?_map, Option.map_eq_some_iff] at hv
            obtain ⟨c, hci, rfl⟩ := hv
            have tk : ([0, 1, 2].take (i + 1)).filter (fun c => decide (sg c ∈ L (cat (rs.map rv)))) = ([0, 1, 2].take i).filter (fun c => decide (sg c ∈ L (cat (rs.map rv)))) ++ (if sg c ∈ L (cat (rs.map rv)) then [c] else []) := by
              rw [List.take_add_one, hci, List.filter_append]
              by_cases q : sg c ∈ L (cat (rs.map rv)) <;> simp only [Option.toList, List.filter_cons, List.filter_nil, q, decide_true, decide_false, if_true, if_false, Bool.false_eq_true]
            refine ifs_one ?_
            repeat walk_at "w"
            refine m_str ?_ PySem.F.slot_str_join
            repeat walk_at "w"
            refine c_join hR5 (by rw [hsum]; omega) ?_
            repeat walk_at "w"
            refine o_ins ?_
            rw [contains1]
            repeat walk_at "w"
            by_cases q : sg c ∈ L (cat (rs.map rv))
            · refine if_t (by simpa using q) ?_
              repeat walk_at "w"
              refine ⟨rfl, ?_⟩
              rw [tk, if_pos q, List.map_append]; rfl
            · refine if_f (by simpa using q) ?_
              refine ⟨rfl, ?_⟩
              rw [tk, if_neg q, List.append_nil]
          · rintro acc σ' ⟨h2, rfl⟩ G hG
            subst h2
            rw [List.length_map, List.take_length, sg_rules rlt]
            have fm5 := fm4.fresh hG (.list ((sgnD (dueOf rs)).map fun c => sv (sS c)))
            have hR6 := upd_fresh hR5 hG (w := .list ((sgnD (dueOf rs)).map fun c => sv (sS c)))
            have hG6 : (σ'.upd G (.list ((sgnD (dueOf rs)).map fun c => sv (sS c)))) G = some (.list ((sgnD (dueOf rs)).map fun c => sv (sS c))) := Sto.upd_same _ _ _
            generalize Sto.upd σ' G _ = σ7 at fm5 hR6 hG6 ⊢
            have hdue := due_lt rlt
            repeat walk_at "w"
            refine s_for ?_
            repeat walk_at "w"
            refine call_fn (k := 1) (Room.le room (by decide)) (Fn.mono (fn_chs b) fun r σ8 q => ?_)
            obtain ⟨Ch, rfl, hCh, rfl⟩ := q
            have fm6 := fm5.fresh hCh (.list (choices.map sv))
            have hR7 := upd_fresh hR6 hCh (w := .list (choices.map sv))
            have hG7 := upd_fresh hG6 hCh (w := .list (choices.map sv))
            have hC7 : (σ7.upd Ch (.list (choices.map sv))) Ch = some (.list (choices.map sv)) := Sto.upd_same _ _ _
            generalize Sto.upd σ7 Ch _ = σ8 at fm6 hR7 hG7 hC7 ⊢
            have hchs : choices.map sv = chN.map fun C => sv (S (C.map sg)) := by rw [choices_eq, List.map_map]; rfl
            refine ⟨choices.map sv, fun σ' => σ' Ch = some (.list (choices.map sv)), LawB rs R G Ch L0 σB,
              iters_list, ⟨none, rfl, fm6, hR7, hG7, hC7, fun j C' h => absurd h (Nat.not_lt_zero _)⟩, fun i m σ' h => by obtain ⟨_, _, _, _, _, f, _⟩ := h; exact f, ?_, ?_⟩
            · rintro i v m₂ σ9 hv ⟨c1, hm2, fmA, hRA, hGA, hCA, hprev⟩
              rw [hchs, List.getElem?_map, Option.map_eq_some_iff] at hv
              obtain ⟨C, hCi, rfl⟩ := hv
              have hCm : C ∈ chN := List.mem_of_getElem? hCi
              have hC3 := chN_lt C hCm
              repeat walk_at "w"
              refine put_cell (c := L0 + 1 + 1) (by rfl) (fmA.cl 1 _ rfl) ?_
              have fmB := fmA.put (i := 1) (by decide) (sv (S (C.map sg)))
              have hRB : (σ9.upd (L0 + 1 + 1) (.cell (some (sv (S (C.map sg)))))) R = some (.list ((rs.map rv).map sv)) := by rw [Sto.upd_ne (fmA.nl hRA 1 (by decide))]; exact hRA
              have hGB : (σ9.upd (L0 + 1 + 1) (.cell (some (sv (S (C.map sg)))))) G = some (.list ((sgnD (dueOf rs)).map fun c => sv (sS c))) := by rw [Sto.upd_ne (fmA.nl hGA 1 (by decide))]; exact hGA
              have hCB : (σ9.upd (L0 + 1 + 1) (.cell (some (sv (S (C.map sg)))))) Ch = some (.list (choices.map sv)) := by rw [Sto.upd_ne (fmA.nl hCA 1 (by decide))]; exact hCA
              generalize Sto.upd σ9 (L0 + 1 + 1) _ = σ10 at fmB hRB hGB hCB ⊢
              have cRules := fmB.cl 0 _ rfl
              have cChoice := fmB.cl 1 _ rfl
              repeat walk_at "w"
              refine v_comp (cl := [(("choice" : Str), L0 + 1 + 1)]) (by rfl) ?_
              repeat walk_at "w"
              have hsgl : (sgnD (dueOf rs)).length ≤ 3 := List.length_filter_le _ [0, 1, 2]
              have hsg3 : ∀ c ∈ sgnD (dueOf rs), c < 3 := fun c hc => sgl c (List.mem_filter.mp hc).1
              refine ⟨(sgnD (dueOf rs)).map fun c => sv (sS c), fun σ' => σ' G = some (.list ((sgnD (dueOf rs)).map fun c => sv (sS c))), fun j acc σ' => σ' = σ10 ∧ acc = (((sgnD (dueOf rs)).take j).filter fun c => !decide (c ∈ C)).map fun c => sv (sS c), iters_list, by rw [List.length_map, sizeLine_eq]; omega, ⟨rfl, rfl⟩, fun j acc σ' h => by rw [h.1]; exact hGB, ?_, ?_⟩
              · rintro Cl j v acc σ' mc hv ⟨h2, rfl⟩ hacc
                subst h2
                rw [List.getElem?_map, Option.map_eq_some_iff] at hv
                obtain ⟨c, hcj, rfl⟩ := hv
                have tk : ((sgnD (dueOf rs)).take (j + 1)).filter (fun c => !decide (c ∈ C)) = ((sgnD (dueOf rs)).take j).filter (fun c => !decide (c ∈ C)) ++ (if c ∈ C then [] else [c]) := by
                  rw [List.take_add_one, hcj, List.filter_append]
                  by_cases q : c ∈ C <;> simp only [Option.toList, List.filter_cons, List.filter_nil, q, decide_true, decide_false, Bool.not_true, Bool.not_false, if_true, if_false, Bool.false_eq_true]
                refine ifs_one ?_
                repeat walk_at "w"
                refine o_notins ?_
                rw [cont_choice hC3 (hsg3 c (List.mem_of_getElem? hcj))]
                repeat walk_at "w"
                by_cases q : c ∈ C
                · refine if_f (by simp [q]) ?_
                  refine ⟨rfl, ?_⟩
                  rw [tk, if_pos q, List.append_nil]
                · refine if_t (by simp [q]) ?_
                  repeat walk_at "w"
                  refine ⟨rfl, ?_⟩
                  rw [tk, if_neg q, List.map_append]; rfl
              · rintro acc σ' ⟨h2, rfl⟩ LS hLS
                subst h2
                rw [List.length_map, List.take_length]
                have els : (((sgnD (dueOf rs)).filter fun c => !decide (c ∈ C)).map fun c => sv (sS c)) = ((leftD (dueOf rs) C).map sS).map sv := by rw [List.map_map]; rfl
                rw [els]
                have fmC := fmB.fresh hLS (.list (((leftD (dueOf rs) C).map sS).map sv))
                have hRC := upd_fresh hRB hLS (w := .list (((leftD (dueOf rs) C).map sS).map sv))
                have hGC := upd_fresh hGB hLS (w := .list (((leftD (dueOf rs) C).map sS).map sv))
                have hCC := upd_fresh hCB hLS (w := .list (((leftD (dueOf rs) C).map sS).map sv))
                have hLC : (σ'.upd LS (.list (((leftD (dueOf rs) C).map sS).map sv))) LS = some (.list (((leftD (dueOf rs) C).map sS).map sv)) := Sto.upd_same _ _ _
                generalize Sto.upd σ' LS _ = σ11 at fmC hRC hGC hCC hLC ⊢
                repeat walk_at "w"
                obtain ⟨hln, hl3⟩ := subs_nodup _ (leftD_subs (dueOf rs) C)
                refine call_fn (k := 45) (Room.le room (by decide)) (Fn.mono (fn_lor b rlt hl3 hln hrl (by rw [erl2]; exact hRC) hLC) fun r σ12 q => ?_)
                obtain ⟨k12, q⟩ := q
                have fmD := fmC.sup k12
                have hRD := k12 _ _ hRC
                have hGD := k12 _ _ hGC
                have hCD := k12 _ _ hCC
                rcases q with ⟨rfl, hno⟩ | ⟨W, row, rfl, hrow, hRow⟩
                · repeat walk_at "w"
                  refine if_f (by rfl) ?_
                  repeat walk_at "w"
                  refine ⟨_, hm2, fmD, hRD, hGD, hCD, fun j C' hj hC' => ?_⟩
                  rcases Nat.lt_succ_iff_lt_or_eq.mp hj with h | rfl
                  · exact hprev j C' h hC'
                  · rw [hCi] at hC'
                    cases hC'
                    exact hno
                · obtain ⟨r, hra, rfl, hr3, hgood⟩ := pick rlt chN i C (chk_one hdue) hCi hprev hRow
                  have hw3 : ∀ c ∈ C ++ r ++ C, c < 3 := fun c hc => by
                    rcases List.mem_append.mp hc with hc | hc
                    · rcases List.mem_append.mp hc with hc | hc
                      · exact hC3 c hc
                      · exact hr3 c hc
                    · exact hC3 c hc
                  obtain ⟨hw6, hwrun, hwleast, hwfull⟩ := good_least hdue hw3 hgood
                  have cChoice := fmD.cl 1 _ rfl
                  have cRules := fmD.cl 0 _ rfl
                  repeat walk_at "w"
                  refine if_t (by rfl) ?_
                  repeat walk_at "w"
                  refine m_str ?_ PySem.F.slot_str_join
                  repeat walk_at "w"
                  have hCr : C.length + r.length + C.length ≤ 6 := by simpa [List.length_append, Nat.add_assoc] using hw6
                  refine c_join hrow (by rw [sum_sS]; omega) ?_
                  rw [cat_sS]
                  repeat walk_at "w"
                  have hnm : S (L (S (L (S (C.map sg)) ++ L (S (r.map sg)))) ++ L (S (C.map sg))) = S ((C ++ r ++ C).map sg) := by
                    show S ((C.map sg ++ r.map sg) ++ C.map sg) = _
                    rw [List.map_append, List.map_append]
                  rw [hnm]
                  repeat walk_at "w"
                  refine put_cell (c := L0 + 1 + 2) (by rfl) (fmD.cl 2 _ rfl) ?_
                  have fmE := fmD.put (i := 2) (by decide) (sv (S ((C ++ r ++ C).map sg)))
                  have hRE : (σ12.upd (L0 + 1 + 2) (.cell (some (sv (S ((C ++ r ++ C).map sg)))))) R = some (.list ((rs.map rv).map sv)) := by rw [Sto.upd_ne (fmD.nl hRD 2 (by decide))]; exact hRD
                  generalize Sto.upd σ12 (L0 + 1 + 2) _ = σ13 at fmE hRE ⊢
                  have cRules := fmE.cl 0 _ rfl
                  have cName := fmE.cl 2 _ rfl
                  repeat walk_at "w"
                  refine s_asgcomp (cl := [("name", L0 + 1 + 2)]) (by rfl) ?_
                  repeat walk_at "w"
                  refine ⟨(rs.map rv).map sv, fun σ' => σ' R = some (.list ((rs.map rv).map sv)), fun j acc σ' => σ' = σ13 ∧ acc = [], iters_list, by rw [List.length_map, List.length_map, sizeLine_eq]; omega, ⟨rfl, rfl⟩, fun j acc σ' h => by rw [h.1]; exact hRE, ?_, ?_⟩
                  · rintro Cl j v acc σ' mc hv ⟨h2, rfl⟩ hacc
                    subst h2
                    rw [List.getElem?_map, List.getElem?_map, Option.map_map, Option.map_eq_some_iff] at hv
                    obtain ⟨p, hpj, hve⟩ := hv
                    have hve : v = sv (rv p) := hve.symm
                    subst hve
                    have hpr := List.mem_of_getElem? hpj
                    obtain ⟨hp1, hp2⟩ := rlt p hpr
                    have htb := tb_of hwfull ((tb_due rlt hp1 hp2).mpr hpr)
                    obtain ⟨hf1, hf2⟩ := find_ok hCm hra hp1 hp2 htb
                    refine ifs_one ?_
                    refine t_not ?_
                    refine t_cmp2 ?_
                    repeat walk_at "w"
                    refine m_str ?_ PySem.F.slot_str_find
                    repeat walk_at "w"
                    refine ⟨got_str, o_getn (i := 0) (c := sg p.1) (by rfl) (by walk_at "sz") ?_⟩
                    repeat walk_at "w"
                    refine c_find ?_
                    repeat walk_at "w"
                    refine if_t (by simpa using hf1) ?_
                    repeat walk_at "w"
                    refine m_str ?_ PySem.F.slot_str_rfind
                    repeat walk_at "w"
                    refine ⟨got_str, o_getn (i := 1) (c := sg p.2) (by rfl) (by walk_at "sz") ?_⟩
                    repeat walk_at "w"
                    refine c_rfind ?_
                    repeat walk_at "w"
                    refine if_f (by simpa using hf2) ?_
                    exact ⟨rfl, rfl⟩
                  · rintro acc σ' ⟨h2, rfl⟩ Mi hMi
                    subst h2
                    have fmF := fmE.fresh hMi (.list [])
                    have hRF := upd_fresh hRE hMi (w := .list [])
                    have hMF : (σ'.upd Mi (.list [])) Mi = some (.list []) := Sto.upd_same _ _ _
                    generalize Sto.upd σ' Mi _ = σ14 at fmF hRF hMF ⊢
                    have cRules := fmF.cl 0 _ rfl
                    have cName := fmF.cl 2 _ rfl
                    repeat walk_at "w"
                    refine v_boolop ?_
                    refine vb_and ?_
                    repeat walk_at "w"
                    refine ⟨by walk_at "sz", fun Z1 hZ1 => ?_⟩
                    have fmG := fmF.fresh hZ1 (.list [])
                    have hRG := upd_fresh hRF hZ1 (w := .list [])
                    have hMG := upd_fresh hMF hZ1 (w := .list [])
                    have hZG : (σ14.upd Z1 (.list [])) Z1 = some (.list []) := Sto.upd_same _ _ _
                    generalize Sto.upd σ14 Z1 _ = σ15 at fmG hRG hMG hZG ⊢
                    refine o_eqnil hu hMG hZG ?_
                    repeat walk_at "w"
                    refine if_t rfl ?_
                    have cRules := fmG.cl 0 _ rfl
                    have cName := fmG.cl 2 _ rfl
                    refine vb_and ?_
                    repeat walk_at "w"
                    have hlw : (C ++ r ++ C).length ≤ 6 := hw6
                    refine call_fn (k := 44) (Room.le room (by decide)) (Fn.mono (fn_lle b rlt (by rw [erl2]; exact hRG) (by omega) ⟨C ++ r ++ C, ⟨rfl, hw3⟩, hwrun⟩ hlw) fun r2 σ16 q => ?_)
                    obtain ⟨⟨kk, rfl, hkk⟩, k16⟩ := q
                    have hke := least_one hkk hwleast
                    subst hke
                    have fmH := fmG.sup k16
                    have cName := fmH.cl 2 _ rfl
                    repeat walk_at "w"
                    refine if_t (by rw [S_len, List.length_map]; simp) ?_
                    refine vb_one ?_
                    repeat walk_at "w"
                    refine call_fn (k := 45) (Room.le room (by decide)) (Fn.mono (fn_lrd b (l := (C ++ r ++ C).map sg) (by rw [List.length_map]; omega)) fun r3 σ17 q => ?_)
                    obtain ⟨V, rfl, hV, rfl⟩ := q
                    have fmI := fmH.fresh hV (.list [sv (S ((C ++ r ++ C).map sg)), sv (S ((C ++ r ++ C).map sg))])
                    have hVI : (σ16.upd V (.list [sv (S ((C ++ r ++ C).map sg)), sv (S ((C ++ r ++ C).map sg))])) V = some (.list ([S ((C ++ r ++ C).map sg), S ((C ++ r ++ C).map sg)].map sv)) := Sto.upd_same _ _ _
                    generalize Sto.upd σ16 V _ = σ18 at fmI hVI ⊢
                    have cName := fmI.cl 2 _ rfl
                    repeat walk_at "w"
                    refine ⟨by walk_at "sz", fun V2 hV2 => ?_⟩
                    refine o_eqls (xs := [S ((C ++ r ++ C).map sg), S ((C ++ r ++ C).map sg)]) (ys := [S ((C ++ r ++ C).map sg), S ((C ++ r ++ C).map sg)]) hu (upd_fresh hVI hV2) (Sto.upd_same _ _ _) ?_
                    intro v' hv'
                    rw [decide_eq_true rfl] at hv'
                    exact hv'
            · rintro m₂ σ9 ⟨c1, hm2, fmA, hRA, hGA, hCA, hprev⟩
              exfalso
              exact last_row (hprev 7 [0, 1, 2] (by rw [hchs, List.length_map]; decide) rfl)
    refine s_cons ?_
    refine s_assign ?_
    refine v_slice0 ?_
    repeat walk_at "w"
    refine ⟨a, its, ns.map nv, rfl, ha, hi, by rw [List.length_map, sizeLine_eq]; omega, fun N hN => ?_⟩
    rw [← cut_map]
    have hcl : (cut none (some 8) ns).length ≤ 63 := Nat.le_trans (cut_length _ _ _) hz
    have fm1 := fm.fresh hN (.list ((cut none (some 8) ns).map nv))
    have hN1 : (σB.upd N (.list ((cut none (some 8) ns).map nv))) N = some (.list ((cut none (some 8) ns).map nv)) := Sto.upd_same _ _ _
    generalize Sto.upd σB N _ = σ1 at fm1 hN1 ⊢
    repeat walk_at "w"
    refine ⟨by walk_at "sz", fun Z hZ => ?_⟩
    have fm2 := fm1.fresh hZ (.list [])
    have hN2 := upd_fresh hN1 hZ (w := .list [])
    have hZ2 : (σ1.upd Z (.list [])) Z = some (.list []) := Sto.upd_same _ _ _
    generalize Sto.upd σ1 Z _ = σ2 at fm2 hN2 hZ2 ⊢
    refine o_eqnil hu hN2 hZ2 ?_
    repeat walk_at "w"
    refine if_b (fun _ => ?_) (fun _ => ?_)
    · repeat walk_at "w"
      refine ⟨by walk_at "sz", fun M hM => ?_⟩
      have fm3 := fm2.fresh hM (.list ([1, 5, 6].map nv))
      have hM3 : (σ2.upd M (.list ([1, 5, 6].map nv))) M = some (.list ([1, 5, 6].map nv)) := Sto.upd_same _ _ _
      walk_at "w"
      show (cx_law w h₀ Ar L0).W (execs [] _) _ _ _
      refine s_nil ?_
      refine rest M _ _ [1, 5, 6] hM3 ?_ (by decide) fm3
      rfl
    · walk_at "w"
      refine rest N _ _ _ hN2 ?_ hcl fm2
      rfl
end
end Mine
namespace Mine
section
theorem entry {w : World} {s₁ : Shared} {a : Addr} {its : Array Value} {ns : List Int} (b : Bs w s₁.heap) (hz : ns.length ≤ 63) (ha : s₁.heap.IsList a its) (hi : its.toList.map er = ns.map nv) {E : Value → Shared → Prop} {Q : Value → Shared → Prop}
    (h : ∀ H tk, (∀ b o, s₁.heap.get? b = some o → H.get? b = some o) → Q (.bool true) { s₁ with heap := H, toks := tk }) : wpAny (model prog1 w) callerA (call (.ref 262) [.ref a]) Q E s₁ := by
  have fl := fn_law b (σ := fun _ => none) hz ha hi
  refine wpAny_call (codeAny_mono (fl callerA s₁ [.ref a] ⟨by decide, by decide, fun _ => rfl⟩ rfl ?_) fun r s' p => ?_)
  · exact ⟨fun _ _ e => e, (fun _ _ e => nomatch e), (fun _ e => absurd rfl e), .inl rfl, ⟨[], rfl, (fun _ h => nomatch h)⟩, Nat.le_refl _⟩
  · obtain ⟨σ', H, tk, rfl, rep, oc, q⟩ := p
    match r, q with
    | .ok (.ret v), q =>
      have e : v = .bool true := by
        cases v <;> simp [er] at q <;> (try exact q) <;> (try (rw [q]))
      subst e
      exact h H tk rep.keep
    | .error e, q => exact q.elim
theorem fin01 : PySem.Challenge.rw_kt0071_01.Holds := hd1 (by
  intro d kwd hd0 w s₀ s₁ mg mb G Y fa o pm cd doc dV kV ho hd hcd hD hmg hg args vals as hpre hlay hrd hwl hlo
  have KX : (KK w.params).In s₁.heap := Y
  have hdn : d.name = "law" := defOf_name hd0
  refine Ground.open G ?_
  intro T B D TE TW
  clear ho hcd hD hd G TE TW D B Y
  wrow_args hpre hlay hrd hwl hlo
  rename_i ns _ _ _ _ _ _ _ la vs _ hL _ _ _ hI _ hc _
  have b : Bs w s₁.heap := ⟨KX, _, _, _, _, _, T⟩
  have e262 : mg "law" = some (.ref 262) := mg_of b.X T.g (by rfl)
  have hfa : fa = 262 := by
    have : mg "law" = some (.ref fa) := hdn ▸ hmg
    rw [e262] at this
    cases this; rfl
  subst hfa
  refine entry b (ns := ns) (by omega) hL (ints_are (by simpa using hI)) fun H tk keep => ?_
  exact GoodW.toG ⟨.inl ⟨.bool true, .bool true, [], rfl, raisesW_false (by wrow_none_raised), .bool _, (by wrow_post), fun _ => ⟨List.nodup_nil, (fun _ h => nomatch h)⟩⟩, keep, rfl, hg⟩)
end
end Mine

theorem PySem.Challenge.cw_kt0071_01_holds : PySem.Challenge.rw_kt0071_01.Holds :=
  Mine.fin01
