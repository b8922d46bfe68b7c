import PyProof.Rows.All
import Wide.All
import OpenK.AllK
import Wide.FinOn
import Lean
import PySem.Challenge.RW_ik0013_01
section
open PySem PySem.W PyProof.Rows PySem.Calls
set_option Elab.async false
set_option autoImplicit false
namespace Mine

/-! the ledger: immutable lists, by address -/
abbrev Led := List (Addr × List Value)
def Lst (h : Heap) (a : Addr) (xs : Array Value) : Prop := h.IsList a xs ∧ ∀ o, h.get? a = some o → o.dict = none
def Has (h : Heap) (B : Led) : Prop := ∀ p ∈ B, Lst h p.1 p.2.toArray
theorem Lst.keeps {h h' : Heap} {a : Addr} {xs : Array Value} (l : Lst h a xs) (k : ∀ o, h.get? a = some o → h'.get? a = some o) : Lst h' a xs := by
  obtain ⟨⟨o, ho, hc, n, hd⟩, q⟩ := l
  refine ⟨⟨o, k o ho, hc, n, hd⟩, fun o' e => ?_⟩
  rw [k o ho] at e; cases e; exact q o ho
theorem Lst.mk {h : Heap} {a : Addr} {xs : Array Value} {n : Nat} {sl : Array (Option Value)} (e : h.get? a = some { cls := .type "list", data := .seq xs n, slots := sl }) : Lst h a xs :=
  ⟨⟨_, e, rfl, n, rfl⟩, fun o e' => by rw [e] at e'; cases e'; rfl⟩
theorem Lst.extBut {h h' : Heap} {a b : Addr} {xs : Array Value} (l : Lst h b xs) (hs : Heap.ExtBut a h h') (hb : b ≠ a) : Lst h' b xs := l.keeps fun o e => hs b o hb e
def frs (A : Around) : List Addr := (A.frames.getD []).filterMap (·.frame)

structure Kp (fr : List Addr) (h h' : Heap) : Prop where
  keep : ∀ b o, b ∉ fr → h.get? b = some o → h'.get? b = some o
  slot : ∀ b o, h.get? b = some o → ∃ sl, h'.get? b = some { o with slots := sl }

namespace Kp
variable {fr fr' : List Addr} {h h' h'' : Heap}
theorem of_keeps (k : ∀ b o, h.get? b = some o → h'.get? b = some o) : Kp fr h h' := ⟨fun b o _ e => k b o e, fun b o e => ⟨o.slots, k b o e⟩⟩
theorem refl : Kp fr h h := of_keeps fun _ _ e => e
theorem trans (x : Kp fr h h') (y : Kp fr h' h'') : Kp fr h h'' :=
  ⟨fun b o n e => y.keep b o n (x.keep b o n e), fun b o e => let ⟨_, e₁⟩ := x.slot b o e; let ⟨sl, e₂⟩ := y.slot b _ e₁; ⟨sl, e₂⟩⟩
theorem ns {a : Addr} {m : Str → Option Value} (x : Kp fr h h') (hn : h.Ns a m) : h'.Ns a m := by
  obtain ⟨o, es, ep, ho, hd, r⟩ := hn
  obtain ⟨sl, e⟩ := x.slot a o ho
  exact ⟨_, es, ep, e, hd, r⟩
theorem isList {a : Addr} {xs : Array Value} (x : Kp fr h h') (hl : h.IsList a xs) : h'.IsList a xs := by
  obtain ⟨o, ho, hc, n, hd⟩ := hl
  obtain ⟨sl, e⟩ := x.slot a o ho
  exact ⟨_, e, hc, n, hd⟩
theorem lst {a : Addr} {xs : Array Value} (x : Kp fr h h') (hl : Lst h a xs) : Lst h' a xs := by
  refine ⟨x.isList hl.1, fun o e => ?_⟩
  obtain ⟨o₀, ho₀, _⟩ := hl.1
  obtain ⟨sl, e'⟩ := x.slot a o₀ ho₀
  rw [e'] at e; cases e; exact hl.2 o₀ ho₀
theorem isCell {a : Addr} {v : Option Value} (x : Kp fr h h') (hc : h.IsCell a v) : h'.IsCell a v := by
  obtain ⟨o, ho, hd⟩ := hc
  obtain ⟨sl, e⟩ := x.slot a o ho
  exact ⟨_, e, hd⟩
theorem has {B : Led} (x : Kp fr h h') (hb : Has h B) : Has h' B := fun p hp => x.lst (hb p hp)
theorem some (x : Kp fr h h') {a : Addr} (e : h'.get? a = none) : h.get? a = none := by
  cases q : h.get? a with
  | none => rfl
  | some o => obtain ⟨sl, e'⟩ := x.slot a o q; rw [e] at e'; cases e'
theorem funFrames {base : Heap} {l : List Env} (x : Kp fr h h') (hl : h.FunFrames base l) : h'.FunFrames base l :=
  hl.of_keeps fun b o e _ => let ⟨_, e'⟩ := x.slot b o e; ⟨_, e', rfl⟩
end Kp

/-- what stands of the module and of the frames below, at each heap -/
structure Gl (h00 : Heap) (A : Around) (h : Heap) : Prop where
  stay : h00.StaysIn h
  stack : A.frames.isSome = true
  frames : h.FunFrames h00 (A.frames.getD [])

theorem Gl.off {h00 h : Heap} {A : Around} (G : Gl h00 A h) {b : Addr} {o : Obj} (e : h00.get? b = some o) : b ∉ frs A := fun hm => by
  rw [(G.frames.mem hm).1] at e; cases e
theorem Gl.kp {h00 h h' : Heap} {A : Around} (G : Gl h00 A h) (k : Kp (frs A) h h') : Gl h00 A h' :=
  ⟨fun b o e => k.keep b o (G.off e) (G.stay b o e), G.stack, k.funFrames G.frames⟩

structure Env0 (h00 : Heap) (mg mb : Str → Option Value) : Prop where
  g : h00.Ns mainGlobals mg
  b : h00.Ns builtinsNs mb
  lim : h00.NoLimit

structure Stp (A : Around) (B : Led) (s : Shared) (B' : Led) (s' : Shared) : Prop where
  same : ∃ h' tk, s' = { s with heap := h', toks := tk }
  kp : Kp (frs A) s.heap s'.heap
  has : Has s'.heap B'
  sub : ∀ p ∈ B, p ∈ B'
  new : ∀ p ∈ B', p ∈ B ∨ s.heap.get? p.1 = none

namespace Stp
variable {A : Around} {B B₁ B₂ : Led} {s s₁ s₂ : Shared}
theorem refl (hb : Has s.heap B) : Stp A B s B s := ⟨⟨_, _, rfl⟩, .refl, hb, fun _ h => h, fun _ h => .inl h⟩
theorem trans (x : Stp A B s B₁ s₁) (y : Stp A B₁ s₁ B₂ s₂) : Stp A B s B₂ s₂ := by
  obtain ⟨⟨h₁, t₁, rfl⟩, k1, a1, b1, c1⟩ := x
  obtain ⟨⟨h₂, t₂, rfl⟩, k2, a2, b2, c2⟩ := y
  refine ⟨⟨h₂, t₂, rfl⟩, k1.trans k2, a2, fun p hp => b2 p (b1 p hp), fun p hp => ?_⟩
  rcases c2 p hp with h | h
  · exact c1 p h
  · exact .inr (k1.some h)
theorem tok (x : Stp A B s B₁ s₁) (t : Nat) : Stp A B s B₁ { s₁ with toks := t } := by
  obtain ⟨⟨h₁, t₁, rfl⟩, k1, a1, b1, c1⟩ := x
  exact ⟨⟨h₁, t, rfl⟩, k1, a1, b1, c1⟩
theorem tok0 (x : Stp A B { s with toks := s.toks + 1 } B₁ s₁) : Stp A B s B₁ s₁ := by
  obtain ⟨⟨h₁, t₁, rfl⟩, k1, a1, b1, c1⟩ := x
  exact ⟨⟨h₁, t₁, rfl⟩, k1, a1, b1, c1⟩
theorem keeps {h' : Heap} {tk : Nat} (hb : Has s.heap B) (k : ∀ b o, s.heap.get? b = some o → h'.get? b = some o) : Stp A B s B { s with heap := h', toks := tk } :=
  ⟨⟨_, _, rfl⟩, .of_keeps k, (Kp.of_keeps (fr := frs A) k).has hb, fun _ h => h, fun _ h => .inl h⟩
theorem alloc {h' : Heap} {tk : Nat} {D : Addr} {vs : List Value} (hb : Has s.heap B) (k : ∀ b o, s.heap.get? b = some o → h'.get? b = some o) (hD : s.heap.get? D = none) (hl : Lst h' D vs.toArray) :
    Stp A B s ((D, vs) :: B) { s with heap := h', toks := tk } :=
  ⟨⟨_, _, rfl⟩, .of_keeps k, fun p hp => by
    rcases List.mem_cons.mp hp with rfl | hp
    · exact hl
    · exact (Kp.of_keeps (fr := frs A) k).has hb p hp, fun _ h => .tail _ h, fun p hp => by
    rcases List.mem_cons.mp hp with rfl | hp
    · exact .inr hD
    · exact .inl hp⟩
end Stp

section
variable {prog : Program} {w : World}
def Con {α : Type} (prog : Program) (w : World) (A : Around) (t : Sem α) (B : Led) (s : Shared) (P : Led → α → Prop) : Prop :=
  wpAny (model prog w) A t (fun v s' => ∃ B', Stp A B s B' s' ∧ P B' v) (fun _ _ => False) s
variable {α β : Type} {A : Around} {t : Sem α} {B : Led} {s : Shared} {P : Led → α → Prop}
theorem Con.use {Q : α → Shared → Prop} {E : Value → Shared → Prop} (h : Con prog w A t B s P) (k : ∀ v B' s', Stp A B s B' s' → P B' v → Q v s') : wpAny (model prog w) A t Q E s :=
  wpAny_mono h (fun v s' ⟨B', x, p⟩ => k v B' s' x p) fun _ _ x => x.elim
theorem Con.pure {v : α} (hb : Has s.heap B) (h : P B v) : Con prog w A (Pure.pure v) B s P := wpAny_pure ⟨B, .refl hb, h⟩
theorem Con.mono {P' : Led → α → Prop} (h : Con prog w A t B s P) (k : ∀ B' v, (∀ p ∈ B, p ∈ B') → P B' v → P' B' v) : Con prog w A t B s P' :=
  wpAny_mono h (fun v _ ⟨B', x, p⟩ => ⟨B', x, k B' v x.sub p⟩) fun _ _ x => x
theorem Con.bind {f : α → Sem β} {P' : Led → β → Prop} (h : Con prog w A t B s P) (k : ∀ v B' s', Stp A B s B' s' → P B' v → Con prog w A (f v) B' s' P') : Con prog w A (t >>= f) B s P' :=
  wpAny_bind (h.use fun v B' s' x p => wpAny_mono (k v B' s' x p) (fun _ _ ⟨B₂, y, q⟩ => ⟨B₂, x.trans y, q⟩) fun _ _ z => z)
theorem Con.from {B₀ : Led} {s₀ : Shared} (x : Stp A B₀ s₀ B s) (h : Con prog w A t B s P) : wpAny (model prog w) A t (fun v s' => ∃ B', Stp A B₀ s₀ B' s' ∧ P B' v) (fun _ _ => False) s :=
  wpAny_mono h (fun _ _ ⟨B₂, y, q⟩ => ⟨B₂, x.trans y, q⟩) fun _ _ z => z
end

/-- what an expression reads -/
structure Rd (h00 : Heap) (mg mb : Str → Option Value) (A : Around) (env : Env) (m cm : Str → Option Value) (B : Led) (h : Heap) : Prop where
  e0 : Env0 h00 mg mb
  gl : Gl h00 A h
  ns : h.Ns env.locals m
  cell : ∀ n c, env.cells.lookup n = some c → h.IsCell c (cm n)
  has : Has h B

namespace Rd
variable {h00 : Heap} {mg mb : Str → Option Value} {A : Around} {env : Env} {m cm : Str → Option Value} {B B' : Led} {h h' : Heap} {s s' : Shared}
theorem stp (R : Rd h00 mg mb A env m cm B s.heap) (x : Stp A B s B' s') : Rd h00 mg mb A env m cm B' s'.heap :=
  ⟨R.e0, R.gl.kp x.kp, x.kp.ns R.ns, fun n c hc => x.kp.isCell (R.cell n c hc), x.has⟩
variable {M : Model} {E : Value → Shared → Prop} {Q : Value → Shared → Prop} {x : Str} {pos : Pos} {v : Value}
theorem name_l (R : Rd h00 mg mb A env m cm B s.heap) (hv : m x = some v) (h : Q v s) (hk : env.scope.kind = .function := by rfl) (hl : env.kindOf x = some .local := by rfl) (hd : (x == ("__debug__" : Str)) = false := by decide) :
    wpAny M A (eval (.Name x pos) env) Q E s := wpAny_Name (wpAny_loadName_local hk hl R.ns hv h) hd
theorem name_c (R : Rd h00 mg mb A env m cm B s.heap) {c : Addr} (hc : env.cells.lookup x = some c) (hv : cm x = some v) (h : Q v s) (hk : env.scope.kind = .function := by rfl) (hl : env.kindOf x = some .cell := by rfl) (hd : (x == ("__debug__" : Str)) = false := by decide) :
    wpAny M A (eval (.Name x pos) env) Q E s := wpAny_Name (wpAny_loadName_cell hk hl hc (hv ▸ R.cell x c hc) h) hd
theorem name_g (R : Rd h00 mg mb A env m cm B s.heap) (hv : mg x = some v) (h : Q v s) (hg : env.globals = mainGlobals := by rfl) (hk : env.scope.kind = .function := by rfl) (hl : env.kindOf x = some .globalImplicit := by rfl) (hd : (x == ("__debug__" : Str)) = false := by decide) :
    wpAny M A (eval (.Name x pos) env) Q E s := Name_function_global hk hl (loadGlobal_global (by rw [hg]; exact R.e0.g.keeps R.gl.stay) hv h) hd
theorem name_b (R : Rd h00 mg mb A env m cm B s.heap) (hm : mg x = none) (hv : mb x = some v) (h : Q v s) (hg : env.globals = mainGlobals := by rfl) (hb : env.builtins = builtinsNs := by rfl) (hk : env.scope.kind = .function := by rfl) (hl : env.kindOf x = some .globalImplicit := by rfl) (hd : (x == ("__debug__" : Str)) = false := by decide) :
    wpAny M A (eval (.Name x pos) env) Q E s := Name_function_global hk hl (loadGlobal_builtin (by rw [hg]; exact R.e0.g.keeps R.gl.stay) hm (by rw [hb]; exact R.e0.b.keeps R.gl.stay) hv h) hd
end Rd

abbrev upd (m : Str → Option Value) (x : Str) (v : Value) : Str → Option Value := fun y => if y = x then some v else m y

/-- a def's own frame: what stands, statement by statement -/
structure Fm (h00 : Heap) (mg mb : Str → Option Value) (A₀ : Around) (B₀ : Led) (s₀ : Shared) (env : Env) (m cm : Str → Option Value) (Z : List (Addr × Obj)) (B : Led) (s : Shared) : Prop where
  rd : Rd h00 mg mb (A₀.deeper env) env m cm B s.heap
  gl0 : Gl h00 A₀ s₀.heap
  stp : Stp A₀ B₀ s₀ B s
  apart : env.cells.Pairwise fun x y => x.2 ≠ y.2
  newL : s₀.heap.get? env.locals = none
  newC : ∀ n c, env.cells.lookup n = some c → s₀.heap.get? c = none ∧ c ≠ env.locals
  frame : env.frame = some env.locals
  pin : ∀ p ∈ Z, s.heap.get? p.1 = some p.2 ∧ p.1 ≠ env.locals ∧ (∀ n c, env.cells.lookup n = some c → p.1 ≠ c) ∧ s₀.heap.get? p.1 = none
  offB : ∀ p ∈ Z, ∀ q ∈ B, q.1 ≠ p.1

theorem frs_deeper {A : Around} {env : Env} {L : Addr} (hs : A.frames.isSome = true) (hf : env.frame = some L) : frs (A.deeper env) = L :: frs A := by
  obtain ⟨l, hl⟩ := Option.isSome_iff_exists.mp hs
  simp [frs, Around.deeper, hl, hf]

theorem Fm.stack {h00 : Heap} {mg mb : Str → Option Value} {A₀ : Around} {B₀ : Led} {s₀ : Shared} {env : Env} {m cm : Str → Option Value} {Z : List (Addr × Obj)} {B : Led} {s : Shared}
    (F : Fm h00 mg mb A₀ B₀ s₀ env m cm Z B s) : A₀.frames.isSome = true := by
  have := F.rd.gl.stack
  simpa [Around.deeper] using this

theorem Kp.drop {fr : List Addr} {L : Addr} {h₀ h h' : Heap} (x : Kp fr h₀ h) (n : h₀.get? L = none) (y : Kp (L :: fr) h h') : Kp fr h₀ h' := by
  refine ⟨fun b o hb e => y.keep b o (fun hm => ?_) (x.keep b o hb e), fun b o e => ?_⟩
  · rcases List.mem_cons.mp hm with rfl | hm
    · rw [n] at e; cases e
    · exact hb hm
  · obtain ⟨_, e₁⟩ := x.slot b o e
    obtain ⟨sl, e₂⟩ := y.slot b _ e₁
    exact ⟨sl, e₂⟩
end Mine

end
section
open PySem PySem.W PyProof.Rows PySem.Calls
set_option Elab.async false
set_option autoImplicit false
namespace Mine

theorem Gl.mem {h00 h : Heap} {A : Around} (G : Gl h00 A h) {b : Addr} (hb : b ∈ frs A) : ∃ o, h.get? b = some o := by
  obtain ⟨o, ho, _⟩ := (G.frames.mem hb).2
  exact ⟨o, ho⟩

section
variable {h00 : Heap} {mg mb : Str → Option Value} {A₀ : Around} {B₀ : Led} {s₀ : Shared} {env : Env} {m cm : Str → Option Value} {Z : List (Addr × Obj)} {B B' : Led} {s s' : Shared}
namespace Fm
theorem offL (F : Fm h00 mg mb A₀ B₀ s₀ env m cm Z B s) : env.locals ∉ frs A₀ := fun hm => by
  obtain ⟨o, ho⟩ := F.gl0.mem hm
  rw [F.newL] at ho; cases ho
theorem frs_eq (F : Fm h00 mg mb A₀ B₀ s₀ env m cm Z B s) : frs (A₀.deeper env) = env.locals :: frs A₀ := frs_deeper F.gl0.stack F.frame
/-- an expression has run -/
theorem go (F : Fm h00 mg mb A₀ B₀ s₀ env m cm Z B s) (x : Stp (A₀.deeper env) B s B' s') : Fm h00 mg mb A₀ B₀ s₀ env m cm Z B' s' := by
  have hk := F.frs_eq ▸ x.kp
  refine ⟨F.rd.stp x, F.gl0, ?_, F.apart, F.newL, F.newC, F.frame, fun p hp => ?_, fun p hp q hq => ?_⟩
  · obtain ⟨⟨h₁, t₁, e1⟩, k1, a1, b1, c1⟩ := F.stp
    obtain ⟨⟨h₂, t₂, e2⟩, k2, a2, b2, c2⟩ := x
    refine ⟨⟨h₂, t₂, by rw [e2, e1]⟩, k1.drop F.newL hk, a2, fun p hp => b2 p (b1 p hp), fun p hp => ?_⟩
    rcases c2 p hp with h | h
    · exact c1 p h
    · exact .inr (k1.some h)
  · obtain ⟨h1, h2, h3, h4⟩ := F.pin p hp
    refine ⟨hk.keep _ _ (fun hm => ?_) h1, h2, h3, h4⟩
    rcases List.mem_cons.mp hm with e | hm
    · exact h2 e
    · obtain ⟨o, ho⟩ := F.gl0.mem hm
      rw [h4] at ho; cases ho
  · rcases x.new q hq with h | h
    · exact F.offB p hp q h
    · intro e
      rw [e, (F.pin p hp).1] at h; cases h

theorem lt (F : Fm h00 mg mb A₀ B₀ s₀ env m cm Z B s) (t : Nat) : Fm h00 mg mb A₀ B₀ s₀ env m cm Z B { s with toks := t } := by
  obtain ⟨a, b, c, d, e, f, g, i, j⟩ := F
  exact ⟨a, b, c.tok t, d, e, f, g, i, j⟩

/-- one own object has been changed, no list of the ledger -/
theorem but (F : Fm h00 mg mb A₀ B₀ s₀ env m cm Z B s) {h' : Heap} {tk : Nat} {a : Addr} {m' cm' : Str → Option Value} (hs : Heap.ExtBut a s.heap h') (hn : s₀.heap.get? a = none)
    (hB : ∀ q ∈ B, q.1 ≠ a) (hns : h'.Ns env.locals m') (hc : ∀ n c, env.cells.lookup n = some c → h'.IsCell c (cm' n)) (ha : h00.get? a = none)
    (hp : ∀ p ∈ Z, p.1 ≠ a) : Fm h00 mg mb A₀ B₀ s₀ env m' cm' Z B { s with heap := h', toks := tk } := by
  have hB' : Has h' B := fun q hq => (F.rd.has q hq).extBut hs (hB q hq)
  have kp0 : Kp (frs A₀) s₀.heap h' := by
    refine ⟨fun b o hb e => hs b o (fun q => by rw [q, hn] at e; cases e) (F.stp.kp.keep b o hb e), fun b o e => ?_⟩
    obtain ⟨sl, e'⟩ := F.stp.kp.slot b o e
    exact ⟨sl, hs b _ (fun q => by rw [q, hn] at e; cases e) e'⟩
  refine ⟨⟨F.rd.e0, ⟨fun b o e => hs b o (fun q => by rw [q, ha] at e; cases e) (F.rd.gl.stay b o e), F.rd.gl.stack, ?_⟩, hns, hc, hB'⟩, F.gl0, ?_, F.apart, F.newL, F.newC, F.frame, fun p hp' => ?_, F.offB⟩
  · have h1 := F.rd.gl.frames
    obtain ⟨l, hl⟩ := Option.isSome_iff_exists.mp F.gl0.stack
    have e1 : (A₀.deeper env).frames.getD [] = env :: l := by simp [Around.deeper, hl]
    have e2 : A₀.frames.getD [] = l := by simp [hl]
    rw [e1] at h1 ⊢
    obtain ⟨hk, ⟨L, o, hf, hn', ho, hd⟩, hr⟩ := h1
    obtain ⟨oL, es, ep, hoL, hdL, _⟩ := hns
    refine ⟨hk, ⟨env.locals, oL, F.frame, ?_, hoL, fun vs q => by rw [hdL] at q; cases q⟩, ?_⟩
    · rw [F.frame] at hf; cases hf; exact hn'
    · have h0 := F.gl0.frames
      rw [e2] at h0
      exact kp0.funFrames h0
  · obtain ⟨⟨h₁, t₁, e1⟩, k1, a1, b1, c1⟩ := F.stp
    exact ⟨⟨h', tk, by rw [e1]⟩, kp0, hB', b1, c1⟩
  · obtain ⟨h1, h2, h3, h4⟩ := F.pin p hp'
    exact ⟨hs _ _ (hp p hp') h1, h2, h3, h4⟩

theorem offNs (F : Fm h00 mg mb A₀ B₀ s₀ env m cm Z B s) {q : Addr × List Value} (hq : q ∈ B) {a : Addr} {m' : Str → Option Value} (hn : s.heap.Ns a m') : q.1 ≠ a := fun e => by
  obtain ⟨⟨o, ho, _, n, hd⟩, _⟩ := F.rd.has q hq
  obtain ⟨o', es, ep, ho', hd', _⟩ := hn
  rw [e, ho'] at ho; cases ho; rw [hd'] at hd; cases hd
theorem offCell (F : Fm h00 mg mb A₀ B₀ s₀ env m cm Z B s) {q : Addr × List Value} (hq : q ∈ B) {a : Addr} {v : Option Value} (hn : s.heap.IsCell a v) : q.1 ≠ a := fun e => by
  obtain ⟨⟨o, ho, _, n, hd⟩, _⟩ := F.rd.has q hq
  obtain ⟨o', ho', hd'⟩ := hn
  rw [e, ho'] at ho; cases ho; rw [hd'] at hd; cases hd
theorem new00 (F : Fm h00 mg mb A₀ B₀ s₀ env m cm Z B s) {a : Addr} (hn : s₀.heap.get? a = none) : h00.get? a = none := by
  cases q : h00.get? a with
  | none => rfl
  | some o => have := F.gl0.stay a o q; rw [hn] at this; cases this

variable {M : Model} {A : Around} {E : Value → Shared → Prop} {Q : Unit → Shared → Prop} {x : Str} {v : Value}
theorem st (F : Fm h00 mg mb A₀ B₀ s₀ env m cm Z B s) (h : ∀ s', Fm h00 mg mb A₀ B₀ s₀ env (upd m x v) cm Z B s' → Q () s') (hk : env.scope.kind = .function := by rfl) (hl : env.kindOf x = some .local := by rfl) :
    wpAny M A (storeName env x v) Q E s := by
  refine wpAny_storeName_local hl F.rd.ns (fun h' hn hs => h _ ?_) (by rw [hk]; rfl)
  refine F.but hs.extBut F.newL (fun q hq => F.offNs hq F.rd.ns) hn (fun n c hc => (F.rd.cell n c hc).sameBut hs ((F.newC n c hc).2)) (F.new00 F.newL) fun p hp => (F.pin p hp).2.1
theorem stc (F : Fm h00 mg mb A₀ B₀ s₀ env m cm Z B s) {c : Addr} (hc : env.cells.lookup x = some c) (h : ∀ s', Fm h00 mg mb A₀ B₀ s₀ env m (upd cm x v) Z B s' → Q () s') (hk : env.scope.kind = .function := by rfl) (hl : env.kindOf x = some .cell := by rfl) :
    wpAny M A (storeName env x v) Q E s := by
  have hcm := mem_of_lookup hc
  have hnew := F.newC x c hc
  refine wpAny_storeName_cell hk hl hc (F.rd.cell x c hc) fun h' hc' hs => h _ ?_
  have := F.but (tk := s.toks) (m' := m) (cm' := upd cm x v) hs.extBut hnew.1 (fun q hq => F.offCell hq (F.rd.cell x c hc)) (F.rd.ns.sameBut hs (Ne.symm hnew.2)) (fun n c' hn => ?_) (F.new00 hnew.1) fun p hp => (F.pin p hp).2.2.1 x c hc
  · exact this
  · by_cases e : n = x
    · subst e; rw [hc] at hn; cases hn; simpa [upd] using hc'
    · show h'.IsCell c' (if n = x then some v else cm n)
      rw [if_neg e]
      exact (F.rd.cell n c' hn).sameBut hs fun q => e (name_of_addr F.apart (mem_of_lookup hn) (q ▸ hcm))
end Fm
end

section
variable {prog : Program} {w : World} {h00 : Heap} {mg mb : Str → Option Value} {A : Around} {B : Led} {s : Shared}
/-- a def of the text: what a call of it wants to know -/
structure IsDef (h00 : Heap) (f : Addr) (fd : FuncData) (body : List Stmt) : Prop where
  obj : ∃ o, h00.get? f = some o ∧ o.data = .func fd
  code : h00.CodeRec fd.code fd.qualname
  body : fd.body = .stmts body
  clo : fd.closure = []
  co : fd.scope.isCoroutine = false
  gen : fd.scope.isGenerator = false
  kind : fd.scope.kind = .function

/-- a call whose body never raises -/
theorem call_def {f : Addr} {fd : FuncData} {body : List Stmt} {vals : List Value} {binds : List (Str × Value)} {Q E : Value → Shared → Prop} (e0 : Env0 h00 mg mb) (G : Gl h00 A s.heap) (hb : Has s.heap B) (D : IsDef h00 f fd body) (hroom : A.depth < recursionLimit)
    (hbind : bindArgs fd ⟨vals, []⟩ = pure binds)
    (hkind : ∀ x ∈ binds, fd.scope.names.lookup x.1 = some .local ∨ (fd.scope.names.lookup x.1 = some .cell ∧ ((cellsFrom (s.heap.objs.size + 1) fd.scope.names []).lookup x.1).isSome = true))
    (h : ∀ s₁ L, Fm h00 mg mb A B s (callEnvC fd L f) (bindL (callEnvC fd L f).kindOf binds fun _ => none) (bindC (callEnvC fd L f).kindOf binds fun _ => none) [] B s₁ →
      wpAny (model prog w) (A.deeper (callEnvC fd L f)) (execs body (callEnvC fd L f)) (fun fl s' => Q (match fl with | .ret v => v | _ => .none) s') (fun _ _ => False) s₁) :
    wpAny (model prog w) A (call (.ref f) vals) Q E s := by
  obtain ⟨o, ho, hd⟩ := D.obj
  refine wpAny_call (codeAny_call_cells hroom (G.stay _ _ ho) hd (e0.lim.keeps G.stay) (D.code.keeps G.stay) D.body hbind D.clo hkind (fun s₁ x => ?_) D.co D.gen D.kind)
  have hL : (callEnvC fd s.heap.objs.size f).locals = s.heap.objs.size := rfl
  have hnew : ∀ a, s.heap.objs.size ≤ a → s.heap.get? a = none := fun a ha => Heap.get?_none_of_le ha
  obtain ⟨h₁, tk, e⟩ := x.toInCall.same
  have hst : Stp A B s B s₁ := by rw [e]; exact Stp.keeps hb fun b o q => by have := x.toInCall.keep b o q; rw [e] at this; exact this
  refine wpAny_mono (h s₁ _ ⟨⟨e0, ⟨fun b o q => x.toInCall.keep b o (G.stay b o q), by simpa [Around.deeper] using G.stack, ?_⟩, x.toInCall.ns, x.cell, hst.has⟩, G, hst, x.apart, hnew _ (Nat.le_refl _), fun n c hc => ?_, rfl, fun _ hp => (nomatch hp), fun _ hp => (nomatch hp)⟩) (fun fl s' q => q) fun _ _ q => q.elim
  · obtain ⟨l, hl⟩ := Option.isSome_iff_exists.mp G.stack
    have e1 : (A.deeper (callEnvC fd s.heap.objs.size f)).frames.getD [] = callEnvC fd s.heap.objs.size f :: l := by simp [Around.deeper, hl]
    have e2 : A.frames.getD [] = l := by simp [hl]
    have h1 := G.frames
    rw [e2] at h1
    rw [e1]
    obtain ⟨oL, es, ep, hoL, hdL, _⟩ := x.toInCall.ns
    refine ⟨by rw [show (callEnvC fd s.heap.objs.size f).scope.kind = fd.scope.kind from rfl, D.kind]; decide, ⟨_, oL, rfl, ?_, hoL, fun vs q => by rw [hdL] at q; cases q⟩, hst.kp.funFrames h1⟩
    cases q : h00.get? s.heap.objs.size with
    | none => rfl
    | some o' => exact absurd (Heap.lt_size (G.stay _ _ q)) (Nat.lt_irrefl _)
  · have := x.above n c (mem_of_lookup hc)
    exact ⟨hnew c (Nat.le_of_lt (hL ▸ this)), Nat.ne_of_gt this⟩
end
end Mine

end
section
open PySem PySem.W PyProof.Rows PySem.Calls
set_option Elab.async false
set_option autoImplicit false
namespace Mine

structure Iter (prog : Program) (w : World) (A : Around) (I : Addr) (B : Led) (n : Nat) (P : Nat → Value → Prop) (St : Nat → Obj → Prop) : Prop where
  item : ∀ (i : Nat) (s : Shared) (o : Obj) (Q : Option Value → Shared → Prop) (E : Value → Shared → Prop), i < n → Has s.heap B → s.heap.get? I = some o → St i o →
    (∀ v h' tk o', P i v → h'.get? I = some o' → St (i + 1) o' → Heap.ExtBut I s.heap h' → Q (some v) { s with heap := h', toks := tk }) → wpAny (model prog w) A (pyNext (.ref I)) Q E s
  done : ∀ (s : Shared) (o : Obj) (Q : Option Value → Shared → Prop) (E : Value → Shared → Prop), Has s.heap B → s.heap.get? I = some o → St n o →
    (∀ h' tk, Heap.ExtBut I s.heap h' → Q none { s with heap := h', toks := tk }) → wpAny (model prog w) A (pyNext (.ref I)) Q E s
  self : ∀ (i : Nat) (s : Shared) (o : Obj) (Q : Value → Shared → Prop) (E : Value → Shared → Prop), s.heap.get? I = some o → St i o → Q (.ref I) s → wpAny (model prog w) A (pyIter (.ref I)) Q E s
  notSeq : ∀ i o, St i o → ∀ xs n, o.data ≠ .seq xs n

def Src (prog : Program) (w : World) (A : Around) (B : Led) (xv : Value) (n : Nat) (P : Nat → Value → Prop) (s : Shared) : Prop :=
  ∃ oI St, oI.isFreed = false ∧ Iter prog w A s.heap.objs.size B n P St ∧ St 0 oI ∧
    ∀ (Q : Value → Shared → Prop) (E : Value → Shared → Prop), Q (.ref s.heap.objs.size) { s with heap := s.heap.push oI } → wpAny (model prog w) A (pyIter xv) Q E s

section
variable {prog : Program} {w : World} {A : Around} {B : Led} {s : Shared}
theorem Src.list (hh : A.handled = none) {l : Addr} {vs : List Value} (hl : (l, vs) ∈ B) (hb : Has s.heap B) : Src prog w A B (.ref l) vs.length (fun i v => vs[i]? = some v) s := by
  have hls : s.heap.IsList l vs.toArray := (hb _ hl).1
  have hne : l ≠ s.heap.objs.size := by obtain ⟨o, ho, _⟩ := hls; exact Nat.ne_of_lt (Heap.lt_size ho)
  refine ⟨{ cls := .type "list_iterator", data := .fields #[.ref l, .int 0 0] }, fun i o => o.cls = .type "list_iterator" ∧ o.data = .fields #[.ref l, .int (i : Nat) 0], rfl, ?_, ⟨rfl, rfl⟩, fun Q E h => wpAny_pyIter_list hls h⟩
  refine ⟨fun i s' o Q E hi hb' ho hst hQ => ?_, fun s' o Q E hb' ho hst hQ => ?_, fun i s' o Q E ho hst hQ => wpAny_pyIter_listiter (i := i) ⟨o, ho, hst.1, hst.2⟩ hQ, fun i o hst xs n e => by rw [hst.2] at e; cases e⟩
  · refine wpAny_pyNext_list_item (i := i) ⟨o, ho, hst.1, hst.2⟩ (hb' _ hl).1 (x := vs[i]) (by simp [hi]) fun h' hit' hs' => ?_
    obtain ⟨o', ho', hc', hd'⟩ := hit'
    exact hQ _ h' s'.toks o' (by simp [hi]) ho' ⟨hc', hd'⟩ hs'.extBut
  · exact wpAny_pyNext_list_end (i := vs.length) hh ⟨o, ho, hst.1, hst.2⟩ (hb' _ hl).1 (by simp) fun h' he' => hQ h' s'.toks he'

theorem Src.range (hh : A.handled = none) {r : Addr} {n : Nat} {t u v : Tok} (hr : IsRange s.heap r 0 (n : Int) 1 t u v) (hn : n < 2 ^ 31) : Src prog w A B (.ref r) n (fun i v => ∃ t, v = .int (i : Int) t) s := by
  have hsz : Builtin.Range.rangeSize 0 (n : Int) 1 = n := by rw [rangeSize_nat]; simp
  refine ⟨{ cls := .type "range_iterator", data := .fields #[rawInt 0, rawInt n, rawInt 1] }, fun i o => o = { cls := .type "range_iterator", dict := none, data := .fields #[rawInt (0 + (i : Nat) * 1), rawInt ((n : Int) - (i : Nat)), rawInt 1], slots := #[] }, rfl, ?_, ?_, fun Q E h => wpAny_pyIter_range hr ?_ ?_⟩
  · refine ⟨fun i s' o Q E hi _ ho hst hQ => ?_, fun s' o Q E _ ho hst hQ => ?_, fun i s' o Q E ho hst hQ => ?_, fun i o hst xs n e => by rw [hst] at e; cases e⟩
    · subst hst
      refine wpAny_pyNext_range_item ho (by omega) fun h' hit' hs' => ?_
      refine hQ _ h' _ _ ⟨s'.toks, by simp⟩ hit' ?_ hs'.extBut
      have e1 : (0 : Int) + ((i + 1 : Nat) : Int) * 1 = 0 + (i : Int) * 1 + 1 := by push_cast; omega
      have e2 : (n : Int) - ((i + 1 : Nat) : Int) = (n : Int) - (i : Int) - 1 := by push_cast; omega
      rw [e1, e2]
    · subst hst
      exact wpAny_pyNext_range_end hh ho (by omega) fun h' he' => hQ h' s'.toks he'
    · subst hst
      exact wpAny_pyIter_rangeiter ho hQ
  · simp
  · exact small_one (by omega) (by omega) (by omega) (by omega)
  · rw [hsz]; exact h
end

section
variable {prog : Program} {w : World} {h00 : Heap} {mg mb : Str → Option Value} {A₀ : Around} {B₀ : Led} {s₀ : Shared} {env : Env} {m cm : Str → Option Value} {Z : List (Addr × Obj)} {B : Led} {s : Shared}

theorem Fm.push (F : Fm h00 mg mb A₀ B₀ s₀ env m cm Z B s) {o : Obj} (hf : o.isFreed = false) : Fm h00 mg mb A₀ B₀ s₀ env m cm ((s.heap.objs.size, o) :: Z) B { s with heap := s.heap.push o } := by
  have G := F.go (B' := B) (s' := { s with heap := s.heap.push o }) (.keeps F.rd.has fun b o' e => Heap.get?_push_of_some _ e)
  have lt : ∀ b o', s.heap.get? b = some o' → s.heap.objs.size ≠ b := fun b o' e => Nat.ne_of_gt (Heap.lt_size e)
  refine ⟨G.rd, G.gl0, G.stp, G.apart, G.newL, G.newC, G.frame, fun p hp => ?_, fun p hp q hq => ?_⟩
  · rcases List.mem_cons.mp hp with rfl | hp
    · refine ⟨Heap.get?_push_size _ hf, ?_, fun n c hc => ?_, ?_⟩
      · obtain ⟨oL, _, _, hL, _⟩ := F.rd.ns
        exact lt _ _ hL
      · obtain ⟨oc, hoc, _⟩ := F.rd.cell n c hc
        exact lt _ _ hoc
      · exact F.stp.kp.some (Heap.get?_none_of_le (Nat.le_refl _))
    · exact G.pin p hp
  · rcases List.mem_cons.mp hp with rfl | hp
    · obtain ⟨o', ho', _⟩ := (F.rd.has q hq).1
      exact Ne.symm (lt _ _ ho')
    · exact G.offB p hp q hq

theorem Fm.sub {Z' : List (Addr × Obj)} (F : Fm h00 mg mb A₀ B₀ s₀ env m cm Z B s) (h : ∀ p ∈ Z', p ∈ Z) : Fm h00 mg mb A₀ B₀ s₀ env m cm Z' B s :=
  ⟨F.rd, F.gl0, F.stp, F.apart, F.newL, F.newC, F.frame, fun p hp => F.pin p (h p hp), fun p hp => F.offB p (h p hp)⟩

theorem Fm.repin {I : Addr} {o o' : Obj} {h' : Heap} {tk : Nat} (F : Fm h00 mg mb A₀ B₀ s₀ env m cm ((I, o) :: Z) B s) (hs : Heap.ExtBut I s.heap h') (ho : h'.get? I = some o') (hZ : ∀ p ∈ Z, p.1 ≠ I) :
    Fm h00 mg mb A₀ B₀ s₀ env m cm ((I, o') :: Z) B { s with heap := h', toks := tk } := by
  obtain ⟨h1, h2, h3, h4⟩ := F.pin _ (.head _)
  have ob := F.offB _ (.head _)
  have G := (F.sub (Z' := Z) fun p hp => .tail _ hp).but (tk := tk) (cm' := cm) hs h4 ob (F.rd.ns.extBut hs (Ne.symm h2)) (fun n c hc => ?_) (F.new00 h4) hZ
  · refine ⟨G.rd, G.gl0, G.stp, G.apart, G.newL, G.newC, G.frame, fun p hp => ?_, fun p hp => ?_⟩
    · rcases List.mem_cons.mp hp with rfl | hp
      · exact ⟨ho, h2, h3, h4⟩
      · exact G.pin p hp
    · rcases List.mem_cons.mp hp with rfl | hp
      · exact ob
      · exact G.offB p hp
  · obtain ⟨oc, hoc, hd⟩ := F.rd.cell n c hc
    exact ⟨oc, hs c oc (Ne.symm (h3 n c hc)) hoc, hd⟩

theorem Fm.unpin {I : Addr} {o : Obj} {h' : Heap} {tk : Nat} (F : Fm h00 mg mb A₀ B₀ s₀ env m cm ((I, o) :: Z) B s) (hs : Heap.ExtBut I s.heap h') (hZ : ∀ p ∈ Z, p.1 ≠ I) :
    Fm h00 mg mb A₀ B₀ s₀ env m cm Z B { s with heap := h', toks := tk } := by
  obtain ⟨h1, h2, h3, h4⟩ := F.pin _ (.head _)
  have ob := F.offB _ (.head _)
  refine (F.sub (Z' := Z) fun p hp => .tail _ hp).but (tk := tk) hs h4 ob (F.rd.ns.extBut hs (Ne.symm h2)) (fun n c hc => ?_) (F.new00 h4) hZ
  obtain ⟨oc, hoc, hd⟩ := F.rd.cell n c hc
  exact ⟨oc, hs c oc (Ne.symm (h3 n c hc)) hoc, hd⟩

/-- what a turn hands on -/
def TurnEnd (h00 : Heap) (mg mb : Str → Option Value) (A₀ : Around) (B₀ : Led) (s₀ : Shared) (env : Env) (Z : List (Addr × Obj)) (B : Led) (J : (Str → Option Value) → (Str → Option Value) → Led → Prop) (Q : Flow → Shared → Prop) (f : Flow) (s₂ : Shared) : Prop :=
  match f with
  | .brk => Q .next s₂
  | .ret v => Q (.ret v) s₂
  | _ => ∃ m₂ cm₂ B₂, (∀ p ∈ B, p ∈ B₂) ∧ J m₂ cm₂ B₂ ∧ Fm h00 mg mb A₀ B₀ s₀ env m₂ cm₂ Z B₂ s₂

theorem for_it {x : Str} {px : Pos} {body : List Stmt} {oI : Obj} {n : Nat} {P : Nat → Value → Prop} {St : Nat → Obj → Prop} {Q : Flow → Shared → Prop} {I : Addr}
    (T : Iter prog w (A₀.deeper env) I B n P St) (hst : St 0 oI) (F : Fm h00 mg mb A₀ B₀ s₀ env m cm ((I, oI) :: Z) B s) (hZ : ∀ p ∈ Z, p.1 ≠ I)
    (J : Nat → (Str → Option Value) → (Str → Option Value) → Led → Prop) (h0 : J 0 m cm B)
    (turn : ∀ i v m₁ cm₁ Z₁ B₁ s₁, i < n → P i v → (∀ p ∈ B, p ∈ B₁) → J i m₁ cm₁ B₁ → Fm h00 mg mb A₀ B₀ s₀ env (upd m₁ x v) cm₁ Z₁ B₁ s₁ → (∀ p ∈ Z, p ∈ Z₁) →
      wpAny (model prog w) (A₀.deeper env) (execs body env) (TurnEnd h00 mg mb A₀ B₀ s₀ env Z₁ B₁ (J (i + 1)) Q) (fun _ _ => False) s₁)
    (done : ∀ m₁ cm₁ B₁ s₁, (∀ p ∈ B, p ∈ B₁) → J n m₁ cm₁ B₁ → Fm h00 mg mb A₀ B₀ s₀ env m₁ cm₁ Z B₁ s₁ → Q .next s₁)
    (hk : env.scope.kind = .function := by rfl) (hx : env.kindOf x = some .local := by rfl) :
    codeAny (model prog w) (A₀.deeper env) (.forLoop (.Name x px) (.ref I) body [] env) (fun r s' => match r with | .ok f => Q f s' | .error e => cameBackBy (model prog w) (A₀.deeper env) env (fun _ _ => False) e s') s := by
  refine codeAny_forLoop (fun k s' => ∃ i o m₁ cm₁ B₁, i ≤ n ∧ k = n + 1 - i ∧ St i o ∧ (∀ p ∈ B, p ∈ B₁) ∧ J i m₁ cm₁ B₁ ∧ Fm h00 mg mb A₀ B₀ s₀ env m₁ cm₁ ((I, o) :: Z) B₁ s') ?_ (n + 1) ⟨0, oI, m, cm, B, Nat.zero_le _, rfl, hst, fun _ h => h, h0, F⟩
  rintro k s' ⟨i, o, m₁, cm₁, B₁, hi, rfl, hst', hsub, hJ, F'⟩
  have hasB : Has s'.heap B := fun p hp => F'.rd.has p (hsub p hp)
  by_cases hlt : i < n
  · refine T.item i s' o _ _ hlt hasB (F'.pin _ (.head _)).1 hst' fun v h' tk o' hP ho' hst'' hs' => ?_
    have F₁ := F'.repin (tk := tk) hs' ho' hZ
    refine wpAny_assign_Name (F₁.st (fun s₂ F₂ => ?_) hk hx)
    refine wpAny_mono (turn i v m₁ cm₁ _ B₁ s₂ hlt hP hsub hJ F₂ fun p hp => .tail _ hp) (fun f s₃ h₃ => ?_) fun _ _ q => q.elim
    cases f with
    | next => obtain ⟨m₂, cm₂, B₂, a, b, c⟩ := h₃; exact ⟨n + 1 - (i + 1), by omega, i + 1, o', m₂, cm₂, B₂, hlt, rfl, hst'', fun p hp => a p (hsub p hp), b, c⟩
    | cont => obtain ⟨m₂, cm₂, B₂, a, b, c⟩ := h₃; exact ⟨n + 1 - (i + 1), by omega, i + 1, o', m₂, cm₂, B₂, hlt, rfl, hst'', fun p hp => a p (hsub p hp), b, c⟩
    | brk => exact h₃
    | ret v => exact h₃
  · have e : i = n := by omega
    subst e
    refine T.done s' o _ _ hasB (F'.pin _ (.head _)).1 hst' fun h' tk hs' => wpAny_execs_nil ?_
    exact done m₁ cm₁ B₁ _ hsub hJ (F'.unpin (tk := tk) hs' hZ)

/-- the whole statement -/
theorem For_ {x : Str} {px pos : Pos} {iter : PySem.Expr} {body : List Stmt} {n : Nat} {P : Nat → Value → Prop} {Q : Flow → Shared → Prop} {E : Value → Shared → Prop}
    (_F : Fm h00 mg mb A₀ B₀ s₀ env m cm Z B s) (hiter : wpAny (model prog w) (A₀.deeper env) (eval iter env) (fun xv s₁ => ∃ B₁, Fm h00 mg mb A₀ B₀ s₀ env m cm Z B₁ s₁ ∧ Src prog w (A₀.deeper env) B₁ xv n P s₁ ∧ ∃ (J : Nat → (Str → Option Value) → (Str → Option Value) → Led → Prop), J 0 m cm B₁ ∧
      (∀ i v m₁ cm₁ Z₁ B₂ s₂, i < n → P i v → (∀ p ∈ B₁, p ∈ B₂) → J i m₁ cm₁ B₂ → Fm h00 mg mb A₀ B₀ s₀ env (upd m₁ x v) cm₁ Z₁ B₂ s₂ → (∀ p ∈ Z, p ∈ Z₁) →
        wpAny (model prog w) (A₀.deeper env) (execs body env) (TurnEnd h00 mg mb A₀ B₀ s₀ env Z₁ B₂ (J (i + 1)) Q) (fun _ _ => False) s₂) ∧
      (∀ m₁ cm₁ B₂ s₂, (∀ p ∈ B₁, p ∈ B₂) → J n m₁ cm₁ B₂ → Fm h00 mg mb A₀ B₀ s₀ env m₁ cm₁ Z B₂ s₂ → Q .next s₂)) (fun _ _ => False) s)
    (hk : env.scope.kind = .function := by rfl) (hx : env.kindOf x = some .local := by rfl) (hs : ∀ x, foldedSetIterable iter env x = pure x := by intro _; rfl) :
    wpAny (model prog w) (A₀.deeper env) (exec (.For (.Name x px) iter body [] pos) env) Q E s := by
  refine wpAny_noRaise (wpAny_For (wpAny_mono hiter (fun xv s₁ h₁ => ?_) fun _ _ q => q.elim) hs)
  obtain ⟨B₁, F₁, ⟨oI, St, hf, T, hst, hit⟩, J, h0, turn, done⟩ := h₁
  refine hit _ _ ?_
  refine for_it T hst (F₁.push hf) (fun p hp e => ?_) J h0 turn done hk hx
  have := Heap.lt_size (F₁.pin p hp).1
  rw [e] at this
  exact Nat.lt_irrefl _ this
end
end Mine

end
section
open PySem PySem.W PyProof.Rows PySem.Calls
set_option Elab.async false
set_option autoImplicit false
namespace Mine

/-- the state amid a comprehension's turns -/
structure Lp (A : Around) (B : Led) (s₁ : Shared) (Z : List (Addr × Obj)) (I C D : Addr) (ys : List Value) (B₁ : Led) (o : Obj) (m₂ : Str → Option Value) (s' : Shared) : Prop where
  same : ∃ h' tk, s' = { s₁ with heap := h', toks := tk }
  kp : Kp (frs A) s₁.heap s'.heap
  has : Has s'.heap B₁
  sub : ∀ p ∈ B, p ∈ B₁
  new : ∀ p ∈ B₁, p ∈ B ∨ s₁.heap.get? p.1 = none
  offD : ∀ p ∈ B₁, p.1 ≠ D
  hI : s'.heap.get? I = some o
  hD : Lst s'.heap D ys.toArray
  hC : s'.heap.Ns C m₂
  pin : ∀ p ∈ Z, s'.heap.get? p.1 = some p.2

structure Apart3 (A : Around) (h : Heap) (Z : List (Addr × Obj)) (I C D : Addr) : Prop where
  ic : I ≠ C
  id : I ≠ D
  cd : C ≠ D
  i : h.get? I = none
  c : h.get? C = none
  d : h.get? D = none
  fi : I ∉ frs A
  z : ∀ p ∈ Z, p.1 ≠ I ∧ p.1 ≠ C ∧ p.1 ≠ D ∧ p.1 ∉ frs A

theorem kp_ext {fr : List Addr} {h₁ h h' : Heap} {a : Addr} (k : Kp fr h₁ h) (x : h₁.get? a = none) (hs : Heap.ExtBut a h h') : Kp fr h₁ h' :=
  ⟨fun b o hb e => hs b o (fun q => by rw [q, x] at e; cases e) (k.keep b o hb e), fun b o e => let ⟨sl, e'⟩ := k.slot b o e; ⟨sl, hs b _ (fun q => by rw [q, x] at e; cases e) e'⟩⟩

theorem append_lst {prog : Program} {w : World} {A : Around} {s : Shared} {l : Addr} {items : Array Value} {x : Value} {Q E : Value → Shared → Prop} (hl : Lst s.heap l items)
    (hQ : ∀ h', Lst h' l (items.push x) → Heap.SameBut l s.heap h' → Q .none { s with heap := h' }) (hsz : items.size ≤ sizeLine) : wpAny (model prog w) A (call (.builtin "list.append") [.ref l, x]) Q E s := by
  obtain ⟨⟨⟨cls, dict, data, slots⟩, ho, hc, n, hd⟩, hn⟩ := hl
  have hn := hn _ ho
  simp only at hc hd hn
  subst hc hd hn
  refine wpAny_call_entry slot_list_append ⟨_, ho, rfl⟩ entry_list_append ?_ (args_list_append _ _)
  show wpAny _ _ (updateSeq l (·.push x) >>= fun _ => ret .none) _ _ s
  refine wpAny_bind ?_
  refine wpAny_updateSeq ho rfl (wpAny_pure ⟨.none, rfl, hQ _ ⟨⟨_, Heap.get?_update_self _ ho rfl, rfl, _, rfl⟩, fun o e => ?_⟩ (Heap.SameBut.update ..)⟩)
  rw [Heap.get?_update_self _ ho rfl] at e
  cases e; rfl

namespace Lp
variable {A : Around} {B : Led} {s₁ : Shared} {Z : List (Addr × Obj)} {I C D : Addr} {ys : List Value} {B₁ B₂ : Led} {o o' : Obj} {m₂ m₃ : Str → Option Value} {s' s'' : Shared} {h' : Heap} {tk : Nat}
theorem offI (L : Lp A B s₁ Z I C D ys B₁ o m₂ s') (hns : ∀ xs n, o.data ≠ .seq xs n) : ∀ p ∈ B₁, p.1 ≠ I := fun p hp e => by
  obtain ⟨⟨ob, ho, _, n, hd⟩, _⟩ := L.has p hp
  rw [e, L.hI] at ho; cases ho; exact hns _ _ hd
theorem offC (L : Lp A B s₁ Z I C D ys B₁ o m₂ s') : ∀ p ∈ B₁, p.1 ≠ C := fun p hp e => by
  obtain ⟨⟨ob, ho, _, n, hd⟩, _⟩ := L.has p hp
  obtain ⟨oc, es, ep, hoc, hdc, _⟩ := L.hC
  rw [e, hoc] at ho; cases ho; rw [hdc] at hd; cases hd
theorem step (L : Lp A B s₁ Z I C D ys B₁ o m₂ s') (x : Apart3 A s₁.heap Z I C D) (y : Stp A B₁ s' B₂ s'') : Lp A B s₁ Z I C D ys B₂ o m₂ s'' := by
  obtain ⟨⟨h₁, t₁, e1⟩, k1, a1, b1, c1, d1, i1, l1, n1, z1⟩ := L
  obtain ⟨⟨h₂, t₂, e2⟩, k2, a2, b2, c2⟩ := y
  refine ⟨⟨h₂, t₂, by rw [e2, e1]⟩, k1.trans k2, a2, fun p hp => b2 p (b1 p hp), fun p hp => ?_, fun p hp => ?_, k2.keep _ _ x.fi i1, k2.lst l1, k2.ns n1, fun p hp => k2.keep _ _ (x.z p hp).2.2.2 (z1 p hp)⟩
  · rcases c2 p hp with h | h
    · exact c1 p h
    · exact .inr (k1.some h)
  · rcases c2 p hp with h | h
    · exact d1 p h
    · intro q
      obtain ⟨ol, hol, _⟩ := l1.1
      rw [q, hol] at h; cases h
theorem next (L : Lp A B s₁ Z I C D ys B₁ o m₂ s') (x : Apart3 A s₁.heap Z I C D) (hns : ∀ xs n, o.data ≠ .seq xs n) (hs : Heap.ExtBut I s'.heap h') (ho : h'.get? I = some o') : Lp A B s₁ Z I C D ys B₁ o' m₂ { s' with heap := h', toks := tk } := by
  have off := L.offI hns
  obtain ⟨⟨h₁, t₁, e1⟩, k1, a1, b1, c1, d1, i1, l1, n1, z1⟩ := L
  exact ⟨⟨h', tk, by rw [e1]⟩, kp_ext k1 x.i hs, fun p hp => (a1 p hp).extBut hs (off p hp), b1, c1, d1, ho, l1.extBut hs (Ne.symm x.id), n1.extBut hs (Ne.symm x.ic), fun p hp => hs _ _ (x.z p hp).1 (z1 p hp)⟩
theorem set (L : Lp A B s₁ Z I C D ys B₁ o m₂ s') (x : Apart3 A s₁.heap Z I C D) (hs : Heap.SameBut C s'.heap h') (hn : h'.Ns C m₃) : Lp A B s₁ Z I C D ys B₁ o m₃ { s' with heap := h', toks := tk } := by
  have off := L.offC
  obtain ⟨⟨h₁, t₁, e1⟩, k1, a1, b1, c1, d1, i1, l1, n1, z1⟩ := L
  exact ⟨⟨h', tk, by rw [e1]⟩, kp_ext k1 x.c hs.extBut, fun p hp => (a1 p hp).extBut hs.extBut (off p hp), b1, c1, d1, hs.extBut _ _ x.ic i1, l1.extBut hs.extBut (Ne.symm x.cd), hn, fun p hp => hs.extBut _ _ (x.z p hp).2.1 (z1 p hp)⟩
theorem app {y : Value} (L : Lp A B s₁ Z I C D ys B₁ o m₂ s') (x : Apart3 A s₁.heap Z I C D) (hs : Heap.SameBut D s'.heap h') (hl : Lst h' D (ys.toArray.push y)) : Lp A B s₁ Z I C D (ys ++ [y]) B₁ o m₂ { s' with heap := h', toks := tk } := by
  obtain ⟨⟨h₁, t₁, e1⟩, k1, a1, b1, c1, d1, i1, l1, n1, z1⟩ := L
  exact ⟨⟨h', tk, by rw [e1]⟩, kp_ext k1 x.d hs.extBut, fun p hp => (a1 p hp).extBut hs.extBut (d1 p hp), b1, c1, d1, hs.extBut _ _ x.id i1, by simpa using hl, n1.sameBut hs x.cd, fun p hp => hs.extBut _ _ (x.z p hp).2.2.1 (z1 p hp)⟩
theorem fin (L : Lp A B s₁ Z I C D ys B₁ o m₂ s') (x : Apart3 A s₁.heap Z I C D) (hns : ∀ xs n, o.data ≠ .seq xs n) (hs : Heap.ExtBut I s'.heap h') : Stp A B s₁ ((D, ys) :: B₁) { s' with heap := h', toks := tk } ∧ h'.Ns C m₂ := by
  have off := L.offI hns
  obtain ⟨⟨h₁, t₁, e1⟩, k1, a1, b1, c1, d1, i1, l1, n1, z1⟩ := L
  refine ⟨⟨⟨h', tk, by rw [e1]⟩, kp_ext k1 x.i hs, fun p hp => ?_, fun p hp => .tail _ (b1 p hp), fun p hp => ?_⟩, n1.extBut hs (Ne.symm x.ic)⟩
  · rcases List.mem_cons.mp hp with rfl | hp
    · exact l1.extBut hs (Ne.symm x.id)
    · exact (a1 p hp).extBut hs (off p hp)
  · rcases List.mem_cons.mp hp with rfl | hp
    · exact .inr x.d
    · exact c1 p hp
end Lp

abbrev testsOf (ifs : List PySem.Expr) (env : Env) : Sem Bool := forIn ifs true fun c r => if r = true then do let ok ← isTrue c env (eval c env); pure (ForInStep.yield ok) else pure (ForInStep.yield r)

section
variable {prog : Program} {w : World} {h00 : Heap} {mg mb : Str → Option Value} {A : Around} {env : Env} {m cm : Str → Option Value} {B : Led} {s₁ : Shared}

/-- one turn's element -/
def Elt (prog : Program) (w : World) (A : Around) (cenv : Env) (ifs : List PySem.Expr) (elt : PySem.Expr) (ys : List Value) (B₁ : Led) (s₃ : Shared) (J : List Value → Led → Prop) : Prop :=
  wpAny (model prog w) A (testsOf ifs cenv) (fun ok s₄ => if ok = true then wpAny (model prog w) A (eval elt cenv) (fun y s₅ => ys.length ≤ sizeLine ∧ ∃ B₃, Stp A B₁ s₃ B₃ s₅ ∧ J (ys ++ [y]) B₃) (fun _ _ => False) s₄ else ∃ B₂, Stp A B₁ s₃ B₂ s₄ ∧ J ys B₂) (fun _ _ => False) s₃

theorem Elt.all {cenv : Env} {elt : PySem.Expr} {ys : List Value} {B₁ : Led} {s₃ : Shared} {J : List Value → Led → Prop} (hsz : ys.length ≤ sizeLine) (h : Con prog w A (eval elt cenv) B₁ s₃ fun B₃ y => J (ys ++ [y]) B₃) : Elt prog w A cenv [] elt ys B₁ s₃ J := by
  refine wpAny_tests_nil ?_
  rw [if_pos rfl]
  exact wpAny_mono h (fun _ _ x => ⟨hsz, x⟩) fun _ _ x => x

theorem comp_loop {elt iter : PySem.Expr} {x : Str} {px : Pos} {ifs : List PySem.Expr} {scope : Scope} {cl : List (Str × Addr)} {pos : Pos} {n : Nat} {P : Nat → Value → Prop} {St : Nat → Obj → Prop} {oI : Obj} {I C D : Addr} {m₂ : Str → Option Value} {s : Shared}
    {RR : Result → Shared → Prop} (R : Rd h00 mg mb A env m cm B s₁.heap) (T : Iter prog w A I B n P St) (hst : St 0 oI) (X : Apart3 A s₁.heap [] I C D) (hcl : ∀ n c, cl.lookup n = some c → env.cells.lookup n = some c)
    (hkind : scope.kind = .function) (hx : scope.names.lookup x = some .local)
    (J : Nat → List Value → Led → Prop) (h0 : J 0 [] B) (L : Lp A B s₁ [] I C D [] B oI m₂ s)
    (turn : ∀ i v ys B₁ s₃ C m₂, i < n → P i v → (∀ p ∈ B, p ∈ B₁) → J i ys B₁ → Rd h00 mg mb A (compEnvC scope cl C env) (upd m₂ x v) cm B₁ s₃.heap → Elt prog w A (compEnvC scope cl C env) ifs elt ys B₁ s₃ (J (i + 1)))
    (fin : ∀ m₃ ys B₁ s', s'.heap.Ns C m₃ → (∀ p ∈ B, p ∈ B₁) → J n ys B₁ → Stp A B s₁ ((D, ys) :: B₁) s' → RR (.ok .next) s') :
    codeAny (model prog w) A (.compLoop (.ListComp elt [⟨.Name x px, iter, ifs, 0⟩] scope pos) 0 (.ref I) (.ref D) (compEnvC scope cl C env)) RR s := by
  refine codeAny_compLoop_tests (fun k s' => ∃ i o m₃ ys B₁, i ≤ n ∧ k = n + 1 - i ∧ St i o ∧ J i ys B₁ ∧ Lp A B s₁ [] I C D ys B₁ o m₃ s') ?_ (n + 1) ⟨0, oI, m₂, [], B, Nat.zero_le _, rfl, hst, h0, L⟩
  rintro k s' ⟨i, o, m₃, ys, B₁, hi, rfl, hst', hJ, L'⟩
  have hasB : Has s'.heap B := fun p hp => L'.has p (L'.sub p hp)
  by_cases hlt : i < n
  · refine T.item i s' o _ _ hlt hasB L'.hI hst' fun v h' tk o' hP ho' hst'' hs' => ?_
    have L₁ := L'.next (tk := tk) X (T.notSeq _ _ hst') hs' ho'
    refine wpAny_assign_Name (wpAny_storeName_local (lookup_relabel_local hx) L₁.hC (fun h₂ hn₂ hs₂ => ?_) (by simp [compEnvC, relabel, hkind]))
    have L₂ := L₁.set (tk := tk + 1) X hs₂ hn₂
    have R₂ : Rd h00 mg mb A (compEnvC scope cl C env) (upd m₃ x v) cm B₁ h₂ := ⟨R.e0, R.gl.kp L₂.kp, hn₂, fun n c hc => L₂.kp.isCell (R.cell n c (hcl n c hc)), L₂.has⟩
    refine wpAny_mono (turn i v ys B₁ { s' with heap := h₂, toks := tk + 1 } C m₃ hlt hP L'.sub hJ R₂) (fun ok s₃ h₃ => ?_) fun _ _ q => q.elim
    cases ok with
    | false =>
      simp only [Bool.false_eq_true, if_false] at h₃ ⊢
      obtain ⟨B₂, y, j⟩ := h₃
      exact ⟨n + 1 - (i + 1), by omega, i + 1, o', _, ys, B₂, hlt, rfl, hst'', j, L₂.step X y⟩
    | true =>
      simp only [if_true] at h₃ ⊢
      refine wpAny_mono h₃ (fun y s₄ h₄ => ?_) fun _ _ q => q.elim
      obtain ⟨hsz, B₃, z, j⟩ := h₄
      have L₃ := L₂.step X z
      refine append_lst L₃.hD (fun h₅ hl₅ hs₅ => ?_) (by simpa using hsz)
      exact ⟨n + 1 - (i + 1), by omega, i + 1, o', _, ys ++ [y], B₃, hlt, rfl, hst'', j, L₃.app (tk := s₄.toks) X hs₅ hl₅⟩
  · have e : i = n := by omega
    subst e
    refine T.done s' o _ _ hasB L'.hI hst' fun h' tk hs' => ?_
    obtain ⟨a, b⟩ := L'.fin (tk := tk) X (T.notSeq _ _ hst') hs'
    exact fin m₃ ys B₁ _ b L'.sub hJ a

theorem comp_core {elt iter : PySem.Expr} {x : Str} {px : Pos} {ifs : List PySem.Expr} {scope : Scope} {cl : List (Str × Addr)} {pos : Pos} {n : Nat} {P : Nat → Value → Prop} {St : Nat → Obj → Prop} {oI : Obj} {E : Value → Shared → Prop}
    {RR : Value → Addr → Result → Shared → Prop} (R : Rd h00 mg mb A env m cm B s₁.heap) (T : Iter prog w A s₁.heap.objs.size B n P St) (hf : oI.isFreed = false) (hst : St 0 oI) (hcl : ∀ n c, cl.lookup n = some c → env.cells.lookup n = some c)
    (hcell : ∀ y ∈ scope.names, y.2 ≠ .cell) (hkind : scope.kind = .function) (hx : scope.names.lookup x = some .local)
    (J : Nat → List Value → Led → Prop) (h0 : J 0 [] B)
    (turn : ∀ i v ys B₁ s₃ C m₂, i < n → P i v → (∀ p ∈ B, p ∈ B₁) → J i ys B₁ → Rd h00 mg mb A (compEnvC scope cl C env) (upd m₂ x v) cm B₁ s₃.heap → Elt prog w A (compEnvC scope cl C env) ifs elt ys B₁ s₃ (J (i + 1)))
    (fin : ∀ D C m₃ ys B₁ s', D ≠ C → s₁.heap.get? C = none → s'.heap.Ns C m₃ → (∀ p ∈ B, p ∈ B₁) → J n ys B₁ → Stp A B s₁ ((D, ys) :: B₁) s' → RR (.ref D) C (.ok .next) s') :
    wpAny (model prog w) A (newList []) (fun acc s₃ => wpAny (model prog w) A (newFunctionEnv scope env.globals cl [] env.qual none .none (some env)) (fun cenv s₄ =>
      codeAny (model prog w) A (.compStart (.ListComp elt [⟨.Name x px, iter, ifs, 0⟩] scope pos) 0 (.ref s₁.heap.objs.size) acc { cenv with scope := relabel scope env }) (RR acc cenv.locals) s₄) E s₃) E { s₁ with heap := s₁.heap.push oI } := by
  refine wpAny_newObj_type (wpAny_newFunctionEnv hcell (by intro y hy; simp at hy) (fun h₁ hns₁ hsb₁ => ?_) hkind)
  dsimp only at hns₁ hsb₁ ⊢
  generalize hH1 : s₁.heap.push oI = H1 at hns₁ hsb₁ ⊢
  have hD : H1.objs.size = s₁.heap.objs.size + 1 := by rw [← hH1, Heap.size_push]
  generalize hH2 : H1.push { cls := .type "list", dict := none, data := .seq ([] : List Value).toArray } = H2 at hns₁ hsb₁ ⊢
  have hC : H2.objs.size = s₁.heap.objs.size + 2 := by rw [← hH2, Heap.size_push, hD]
  have hno : ∀ a, s₁.heap.objs.size ≤ a → s₁.heap.get? a = none := fun a ha => Heap.get?_none_of_le ha
  have X : Apart3 A s₁.heap [] s₁.heap.objs.size H2.objs.size H1.objs.size := by
    refine ⟨?_, ?_, ?_, hno _ (Nat.le_refl _), hno _ ?_, hno _ ?_, fun hm => ?_, fun _ hp => (nomatch hp)⟩
    · rw [hC]; exact Nat.ne_of_lt (Nat.lt_succ_of_lt (Nat.lt_succ_self _))
    · rw [hD]; exact Nat.ne_of_lt (Nat.lt_succ_self _)
    · rw [hC, hD]; exact Nat.ne_of_gt (Nat.lt_succ_self _)
    · rw [hC]; exact Nat.le_add_right _ _
    · rw [hD]; exact Nat.le_succ _
    · obtain ⟨o, ho⟩ := R.gl.mem hm
      exact Nat.lt_irrefl _ (Heap.lt_size ho)
  have lt : ∀ b o, s₁.heap.get? b = some o → b ≠ H2.objs.size := fun b o e q => by rw [q, X.c] at e; cases e
  have old : ∀ b o, s₁.heap.get? b = some o → h₁.get? b = some o := fun b o e =>
    hsb₁.extBut b o (lt b o e) (Heap.get?_push_of_some _ (hH2 ▸ Heap.get?_push_of_some _ (hH1 ▸ Heap.get?_push_of_some _ e)))
  have L : Lp A B s₁ [] s₁.heap.objs.size H2.objs.size H1.objs.size [] B oI (fun _ => none) { s₁ with heap := h₁, toks := s₁.toks + ([] : List (Str × Value)).length } := by
    refine ⟨⟨_, _, rfl⟩, .of_keeps old, (Kp.of_keeps (fr := frs A) old).has R.has, fun _ h => h, fun _ h => .inl h, fun p hp q => ?_, ?_, ?_, hns₁, fun _ hp => (nomatch hp)⟩
    · obtain ⟨o, ho, _⟩ := (R.has p hp).1
      rw [q, X.d] at ho; cases ho
    · exact hsb₁.extBut _ _ X.ic (Heap.get?_push_of_some _ (hH2 ▸ Heap.get?_push_of_some _ (hH1 ▸ Heap.get?_push_size _ hf)))
    · exact Lst.mk (hsb₁.extBut _ _ (Ne.symm X.cd) (Heap.get?_push_of_some _ (hH2 ▸ Heap.get?_push_size _ rfl)))
  have loop := comp_loop (elt := elt) (iter := iter) (px := px) (ifs := ifs) (pos := pos) (RR := RR (.ref H1.objs.size) H2.objs.size) R T hst X hcl hkind hx J h0 L turn fun m₃ ys B₁ s' a b c d => fin _ _ m₃ ys B₁ s' (Ne.symm X.cd) X.c a b c d
  exact codeAny_compStart_list loop (T.self 0 _ oI _ _ L.hI hst loop)

theorem Stp.but {B' : Led} {s s' : Shared} {a : Addr} {m₀ : Str → Option Value} {h' : Heap} (x : Stp A B s B' s') (hs : Heap.ExtBut a s'.heap h') (hn : s.heap.get? a = none) (hns : s'.heap.Ns a m₀) : Stp A B s B' { s' with heap := h' } := by
  obtain ⟨⟨h₁, t₁, e1⟩, k1, a1, b1, c1⟩ := x
  refine ⟨⟨h', t₁, by rw [e1]⟩, kp_ext k1 hn hs, fun p hp => (a1 p hp).extBut hs fun q => ?_, b1, c1⟩
  obtain ⟨⟨o, ho, _, n, hd⟩, _⟩ := a1 p hp
  obtain ⟨o', es, ep, ho', hd', _⟩ := hns
  rw [q, ho'] at ho; cases ho; rw [hd'] at hd; cases hd

theorem con_comp {elt iter : PySem.Expr} {x : Str} {px : Pos} {ifs : List PySem.Expr} {scope : Scope} {cl : List (Str × Addr)} {pos : Pos} {n : Nat} {s : Shared} {P' : Led → Value → Prop}
    (_R : Rd h00 mg mb A env m cm B s.heap) (hclos : closureFor scope env = pure cl)
    (h : wpAny (model prog w) A (eval iter env) (fun xv s₁ => ∃ (B₁ : Led) (P : Nat → Value → Prop), Stp A B s B₁ s₁ ∧ Rd h00 mg mb A env m cm B₁ s₁.heap ∧ Src prog w A B₁ xv n P s₁ ∧ ∃ (J : Nat → List Value → Led → Prop), J 0 [] B₁ ∧
      (∀ i v ys B₂ s₃ C m₂, i < n → P i v → (∀ p ∈ B₁, p ∈ B₂) → J i ys B₂ → Rd h00 mg mb A (compEnvC scope cl C env) (upd m₂ x v) cm B₂ s₃.heap → Elt prog w A (compEnvC scope cl C env) ifs elt ys B₂ s₃ (J (i + 1))) ∧
      (∀ D ys B₂, (∀ p ∈ B₁, p ∈ B₂) → J n ys B₂ → P' ((D, ys) :: B₂) (.ref D))) (fun _ _ => False) s)
    (hcl : ∀ n c, cl.lookup n = some c → env.cells.lookup n = some c) (hcell : ∀ y ∈ scope.names, y.2 ≠ .cell := by decide) (hkind : scope.kind = .function := by rfl) (hx : scope.names.lookup x = some .local := by rfl)
    (hnames : ∀ y ∈ scope.names, y.2 = .local → scope.names.lookup y.1 = some .local := by decide) (hs : ∀ x, foldedSetIterable iter env x = pure x := by intro _; rfl) :
    Con prog w A (eval (.ListComp elt [⟨.Name x px, iter, ifs, 0⟩] scope pos) env) B s P' := by
  unfold Con
  rw [eval_ListComp]
  refine wpAny_comprehension_free (use := none) rfl hs hclos hkind hnames (wpAny_mono h (fun xv s₁ h₁ => ?_) fun _ _ e => e)
  obtain ⟨B₁, P, x1, R, ⟨oI, St, hf, T, hst, hit⟩, J, h0, turn, fin⟩ := h₁
  refine hit _ _ ?_
  refine comp_core (RR := fun acc C => compPost (model prog w) A (fun _ _ => False) none _ acc C) R T hf hst hcl hcell hkind hx J h0 turn fun D C m₃ ys B₂ s' hDC hC hn hsub hJ y => ?_
  exact ⟨m₃, hn, fun h' hs' => ⟨_, x1.trans (y.but hs'.extBut hC hn), fin D ys B₂ hsub hJ⟩⟩
end

section
variable {prog : Program} {w : World} {h00 : Heap} {mg mb : Str → Option Value} {A₀ : Around} {B₀ : Led} {s₀ : Shared} {env : Env} {m cm : Str → Option Value} {Z : List (Addr × Obj)} {B : Led} {s : Shared}

theorem Fm.addpin {s₁ s' : Shared} {B₁ : Led} {a : Addr} {o : Obj} (F : Fm h00 mg mb A₀ B₀ s₀ env m cm Z B s') (F₁ : Fm h00 mg mb A₀ B₀ s₀ env m cm Z B₁ s₁) (ho : s'.heap.get? a = some o) (hn : s₁.heap.get? a = none) (hns : ∀ xs n, o.data ≠ .seq xs n) :
    Fm h00 mg mb A₀ B₀ s₀ env m cm ((a, o) :: Z) B s' := by
  refine ⟨F.rd, F.gl0, F.stp, F.apart, F.newL, F.newC, F.frame, fun p hp => ?_, fun p hp q hq e => ?_⟩
  · rcases List.mem_cons.mp hp with rfl | hp
    · refine ⟨ho, fun e => ?_, fun n c hc e => ?_, F₁.stp.kp.some hn⟩
      · obtain ⟨oL, _, _, hL, _⟩ := F₁.rd.ns
        have : s₁.heap.get? a = some oL := by rw [show a = env.locals from e]; exact hL
        rw [hn] at this; cases this
      · obtain ⟨oc, hoc, _⟩ := F₁.rd.cell n c hc
        have : s₁.heap.get? a = some oc := by rw [show a = c from e]; exact hoc
        rw [hn] at this; cases this
    · exact F.pin p hp
  · rcases List.mem_cons.mp hp with rfl | hp
    · obtain ⟨⟨ol, hol, _, n, hd⟩, _⟩ := F.rd.has q hq
      rw [e, ho] at hol; cases hol; exact hns _ _ hd
    · exact F.offB p hp q hq e

theorem assign_comp {elt iter : PySem.Expr} {x y : Str} {px py : Pos} {ifs : List PySem.Expr} {scope : Scope} {cl : List (Str × Addr)} {pos spos : Pos} {n : Nat} {Q : Flow → Shared → Prop} {E : Value → Shared → Prop}
    (_F : Fm h00 mg mb A₀ B₀ s₀ env m cm Z B s) (hclos : closureFor scope env = pure cl) (hsw : swapsWith (.ListComp elt [⟨.Name x px, iter, ifs, 0⟩] scope pos) (some (.Name y py)) spos.line env = pure true)
    (h : wpAny (model prog w) (A₀.deeper env) (eval iter env) (fun xv s₁ => ∃ (B₁ : Led) (P : Nat → Value → Prop), Fm h00 mg mb A₀ B₀ s₀ env m cm Z B₁ s₁ ∧ Src prog w (A₀.deeper env) B₁ xv n P s₁ ∧ ∃ (J : Nat → List Value → Led → Prop), J 0 [] B₁ ∧
      (∀ i v ys B₂ s₃ C m₂, i < n → P i v → (∀ p ∈ B₁, p ∈ B₂) → J i ys B₂ → Rd h00 mg mb (A₀.deeper env) (compEnvC scope cl C env) (upd m₂ x v) cm B₂ s₃.heap → Elt prog w (A₀.deeper env) (compEnvC scope cl C env) ifs elt ys B₂ s₃ (J (i + 1))) ∧
      (∀ D ys B₂ s', (∀ p ∈ B₁, p ∈ B₂) → J n ys B₂ → Fm h00 mg mb A₀ B₀ s₀ env (upd m y (.ref D)) cm Z ((D, ys) :: B₂) s' → Q .next s')) (fun _ _ => False) s)
    (hcl : ∀ n c, cl.lookup n = some c → env.cells.lookup n = some c) (hk : env.scope.kind = .function := by rfl) (hy : env.kindOf y = some .local := by rfl) (hcell : ∀ y ∈ scope.names, y.2 ≠ .cell := by decide) (hkind : scope.kind = .function := by rfl) (hx : scope.names.lookup x = some .local := by rfl)
    (hnames : ∀ y ∈ scope.names, y.2 = .local → scope.names.lookup y.1 = some .local := by decide) (hs : ∀ x, foldedSetIterable iter env x = pure x := by intro _; rfl) :
    wpAny (model prog w) (A₀.deeper env) (exec (.Assign [.Name y py] (.ListComp elt [⟨.Name x px, iter, ifs, 0⟩] scope pos) spos) env) Q E s := by
  refine wpAny_noRaise ?_
  rw [exec_Assign_Name_used _ _ _ _ hsw]
  refine wpAny_bind (wpAny_standAt (wpAny_bind ?_))
  show wpAny _ (A₀.deeper env) (do let _ ← comprehension (.ListComp elt [⟨.Name x px, iter, ifs, 0⟩] scope pos) scope env _ (newList []) false (eval iter env) (some (assign (.Name y py) env))) _ _ s
  refine wpAny_bind (wpAny_mono (wpAny_comprehension_free (use := some (assign (.Name y py) env)) (Q := fun _ s' => Q .next s') rfl hs hclos hkind hnames
    (wpAny_mono h (fun xv s₁ h₁ => ?_) fun _ _ e => e)) (fun _ s' hq => wpAny_pure (wpAny_pure hq)) fun _ _ e => e)
  obtain ⟨B₁, P, F₁, ⟨oI, St, hf, T, hst, hit⟩, J, h0, turn, fin⟩ := h₁
  refine hit _ _ ?_
  refine comp_core (RR := fun acc C => compPost (model prog w) (A₀.deeper env) (fun _ _ => False) (some (assign (.Name y py) env)) (fun _ s' => Q .next s') acc C) F₁.rd T hf hst hcl hcell hkind hx J h0 turn fun D C m₃ ys B₂ s' hDC hC hn hsub hJ z => ?_
  show wpAny _ _ (assign (.Name y py) env (.ref D)) _ _ _
  have F₂ := F₁.go z
  obtain ⟨oC, es, ep, hoC, hdC, hrC⟩ := hn
  have F₃ := F₂.addpin F₁ hoC hC (fun xs n q => by rw [hdC] at q; cases q)
  refine wpAny_assign_Name (F₃.st (fun s₄ F₄ => ?_) hk hy)
  refine ⟨m₃, ⟨oC, es, ep, (F₄.pin _ (.head _)).1, hdC, hrC⟩, fun h' hs' => ?_⟩
  refine fin D ys B₂ _ hsub hJ (F₄.unpin (tk := s₄.toks) hs'.extBut fun p hp e => ?_)
  have h1 := (F₁.pin p hp).1
  rw [e, hC] at h1; cases h1
end
end Mine

end
section
open PySem PySem.W PyProof.Rows PySem.Calls
set_option Elab.async false
set_option autoImplicit false
namespace Mine

theorem compTurn_in (elt t1 i1 t2 i2 : PySem.Expr) (scope : Scope) (pos : Pos) (it acc : Value) (env : Env) :
    compTurn (.ListComp elt [⟨t1, i1, [], 0⟩, ⟨t2, i2, [], 0⟩] scope pos) 1 it acc env = (standAt i2.pos >>= fun _ => pyNext it >>= fun r => match r with
      | none => pure (.done .next)
      | some v => letOwnedTupleGo t2 it v >>= fun _ => assign t2 env v >>= fun _ =>
        (eval elt env >>= fun x => call (.builtin "list.append") [acc, x] >>= fun _ => pure ()) >>= fun _ =>
          again (.compLoop (.ListComp elt [⟨t1, i1, [], 0⟩, ⟨t2, i2, [], 0⟩] scope pos) 1 it acc env)) := by rfl

theorem compTurn_out (elt t1 i1 t2 i2 : PySem.Expr) (scope : Scope) (pos : Pos) (it acc : Value) (env : Env) :
    compTurn (.ListComp elt [⟨t1, i1, [], 0⟩, ⟨t2, i2, [], 0⟩] scope pos) 0 it acc env = (standAt i1.pos >>= fun _ => pyNext it >>= fun r => match r with
      | none => pure (.done .next)
      | some v => letOwnedTupleGo t1 it v >>= fun _ => assign t1 env v >>= fun _ =>
        eval i2 env >>= fun x => standAt i2.pos >>= fun _ => foldedSetIterable i2 env x >>= fun x => holding [x] (pyIter x) >>= fun it' =>
          runOwn (.compStart (.ListComp elt [⟨t1, i1, [], 0⟩, ⟨t2, i2, [], 0⟩] scope pos) 1 it' acc env) env >>= fun _ =>
          again (.compLoop (.ListComp elt [⟨t1, i1, [], 0⟩, ⟨t2, i2, [], 0⟩] scope pos) 0 it acc env)) := by
  unfold compTurn
  dsimp only [List.getElem?_cons_zero]
  simp only [List.getElem?_cons_zero, List.getElem?_cons_succ, List.forIn_nil, bne_self_eq_false, Bool.false_eq_true, if_false, if_true, pure_bind]
  rfl

section
variable {prog : Program} {w : World} {A : Around} {R : Result → Shared → Prop} {s : Shared}

theorem compLoop_in {elt t1 i1 t2 i2 : PySem.Expr} {scope : Scope} {pos : Pos} {it acc : Value} {env : Env} (I : Nat → Shared → Prop)
    (turn : ∀ n s, I n s → wpAny (model prog w) A (pyNext it) (fun r s₁ => match r with
      | none => R (.ok .next) s₁
      | some v => wpAny (model prog w) A (assign t2 env v) (fun _ s₂ => wpAny (model prog w) A (eval elt env) (fun x s₃ =>
          wpAny (model prog w) A (call (.builtin "list.append") [acc, x]) (fun _ s₄ => ∃ m, m < n ∧ I m s₄) (fun _ _ => False) s₃) (fun _ _ => False) s₂) (fun _ _ => False) s₁) (fun _ _ => False) s)
    (n : Nat) (h : I n s) (ht : ∀ v, letOwnedTupleGo t2 it v = pure () := by intro _; rfl) :
    codeAny (model prog w) A (.compLoop (.ListComp elt [⟨t1, i1, [], 0⟩, ⟨t2, i2, [], 0⟩] scope pos) 1 it acc env) R s := by
  refine codeAny_loop rfl I (fun n s hI => ?_) n h
  show wpAny _ _ ((compTurn (.ListComp elt [⟨t1, i1, [], 0⟩, ⟨t2, i2, [], 0⟩] scope pos) 1 it acc env).onRaise (fun x => do noteFrame x env; theTreesLotGoes x)) _ _ s
  refine wpAny_onRaise (wpAny_noRaise ?_)
  rw [compTurn_in]
  refine wpAny_bind (wpAny_standAt (wpAny_bind (wpAny_mono (turn n s hI) (fun r s₁ h₁ => ?_) fun _ _ h' => h')))
  cases r with
  | none => exact wpAny_pure h₁
  | some v =>
    refine wpAny_bind (wpAny_of_eq (ht v) ?_)
    exact wpAny_bind (wpAny_mono h₁ (fun _ s₂ h₂ => wpAny_bind (wpAny_bind (wpAny_mono h₂ (fun x s₃ h₃ => wpAny_bind (wpAny_mono h₃
      (fun _ s₄ h₄ => wpAny_pure (wpAny_pure ⟨rfl, h₄⟩)) fun _ _ h' => h')) fun _ _ h' => h'))) fun _ _ h' => h')

theorem compLoop_out {elt t1 i1 t2 i2 : PySem.Expr} {scope : Scope} {pos : Pos} {it acc : Value} {env : Env} (I : Nat → Shared → Prop)
    (turn : ∀ n s, I n s → wpAny (model prog w) A (pyNext it) (fun r s₁ => match r with
      | none => R (.ok .next) s₁
      | some v => wpAny (model prog w) A (assign t1 env v) (fun _ s₂ => wpAny (model prog w) A (eval i2 env) (fun x s₃ =>
          wpAny (model prog w) A (pyIter x) (fun it' s₄ => codeAny (model prog w) A (.compStart (.ListComp elt [⟨t1, i1, [], 0⟩, ⟨t2, i2, [], 0⟩] scope pos) 1 it' acc env)
            (fun r s' => match r with | .ok _ => ∃ m, m < n ∧ I m s' | .error _ => False) s₄) (fun _ _ => False) s₃) (fun _ _ => False) s₂) (fun _ _ => False) s₁) (fun _ _ => False) s)
    (n : Nat) (h : I n s) (ht : ∀ v, letOwnedTupleGo t1 it v = pure () := by intro _; rfl) (hs : ∀ x, foldedSetIterable i2 env x = pure x := by intro _; rfl) :
    codeAny (model prog w) A (.compLoop (.ListComp elt [⟨t1, i1, [], 0⟩, ⟨t2, i2, [], 0⟩] scope pos) 0 it acc env) R s := by
  refine codeAny_loop rfl I (fun n s hI => ?_) n h
  show wpAny _ _ ((compTurn (.ListComp elt [⟨t1, i1, [], 0⟩, ⟨t2, i2, [], 0⟩] scope pos) 0 it acc env).onRaise (fun x => do noteFrame x env; theTreesLotGoes x)) _ _ s
  refine wpAny_onRaise (wpAny_noRaise ?_)
  rw [compTurn_out]
  refine wpAny_bind (wpAny_standAt (wpAny_bind (wpAny_mono (turn n s hI) (fun r s₁ h₁ => ?_) fun _ _ h' => h')))
  cases r with
  | none => exact wpAny_pure h₁
  | some v =>
    refine wpAny_bind (wpAny_of_eq (ht v) ?_)
    refine wpAny_bind (wpAny_mono h₁ (fun _ s₂ h₂ => wpAny_bind (wpAny_mono h₂ (fun x s₃ h₃ => wpAny_bind (wpAny_standAt (wpAny_bind (wpAny_of_eq (hs x) (wpAny_bind (wpAny_holding (wpAny_mono h₃
      (fun it' s₄ h₄ => wpAny_bind (wpAny_runOwn (h := none) (E := fun _ _ => False) ?_)) fun _ _ h' => h'))))))) fun _ _ h' => h')) fun _ _ h' => h')
    refine codeAny_mono (show codeAny (model prog w) A _ _ _ from h₄) fun r s' z => ?_
    cases r with
    | ok f => exact wpAny_pure ⟨rfl, z⟩
    | error e => exact z.elim

theorem compStart_in {elt t1 i1 t2 i2 : PySem.Expr} {scope : Scope} {pos : Pos} {it acc : Value} {env : Env}
    (h0 : codeAny (model prog w) A (.compLoop (.ListComp elt [⟨t1, i1, [], 0⟩, ⟨t2, i2, [], 0⟩] scope pos) 1 it acc env) R s)
    (h : wpAny (model prog w) A (pyIter it) (fun it' s' => codeAny (model prog w) A (.compLoop (.ListComp elt [⟨t1, i1, [], 0⟩, ⟨t2, i2, [], 0⟩] scope pos) 1 it' acc env) R s') (fun _ _ => False) s) :
    codeAny (model prog w) A (.compStart (.ListComp elt [⟨t1, i1, [], 0⟩, ⟨t2, i2, [], 0⟩] scope pos) 1 it acc env) R s := by
  refine codeAny_of_tree ?_
  show wpAny _ _ ((compStart (.ListComp elt [⟨t1, i1, [], 0⟩, ⟨t2, i2, [], 0⟩] scope pos) 1 it acc env).onRaise (fun x => do noteFrame x env; standAt theWindowsPlace)) _ _ s
  refine wpAny_onRaise (wpAny_noRaise ?_)
  unfold compStart
  show wpAny _ _ (ask >>= _) _ _ s
  refine wpAny_bind (wpAny_askSetting (wpAny_ite ?_))
  split
  · first
      | exact wpAny_bind (wpAny_pure (wpAny_pure (And.intro rfl h0)))
      | exact wpAny_pure (And.intro rfl h0)
  · first
      | exact wpAny_bind (wpAny_rule (wpAny_bind (wpAny_standAt (wpAny_bind (wpAny_mono h (fun it' s' h' => wpAny_pure (And.intro rfl h')) fun _ _ x => x)))))
      | (refine wpAny_bind (wpAny_rule ?_); show wpAny _ _ (standAt i2.pos >>= _) _ _ s; exact wpAny_bind (wpAny_standAt (wpAny_bind (wpAny_mono h (fun it' s' h' => wpAny_pure (And.intro rfl h')) fun _ _ x => x))))
end

namespace Lp
variable {A : Around} {B : Led} {s₁ : Shared} {I I₂ C D : Addr} {ys : List Value} {B₁ : Led} {o o₂ : Obj} {m₂ : Str → Option Value} {s' : Shared} {h' : Heap} {tk : Nat}
theorem inn (L : Lp A B s₁ [] I C D ys B₁ o m₂ s') (hf : o₂.isFreed = false) : Lp A B s₁ [(I, o)] s'.heap.objs.size C D ys B₁ o₂ m₂ { s' with heap := s'.heap.push o₂ } := by
  obtain ⟨⟨h₁, t₁, e1⟩, k1, a1, b1, c1, d1, i1, l1, n1, z1⟩ := L
  have k : ∀ b x, s'.heap.get? b = some x → (s'.heap.push o₂).get? b = some x := fun b x e => Heap.get?_push_of_some _ e
  refine ⟨⟨s'.heap.push o₂, s'.toks, by rw [e1]⟩, k1.trans (.of_keeps k), (Kp.of_keeps (fr := frs A) k).has a1, b1, c1, d1, Heap.get?_push_size _ hf, (Kp.of_keeps (fr := frs A) k).lst l1, n1.keeps k, fun p hp => ?_⟩
  rw [List.mem_singleton.mp hp]
  exact k _ _ i1
theorem out (L : Lp A B s₁ [(I, o)] I₂ C D ys B₁ o₂ m₂ s') (x : Apart3 A s₁.heap [(I, o)] I₂ C D) (hns : ∀ xs n, o₂.data ≠ .seq xs n) (hs : Heap.ExtBut I₂ s'.heap h') : Lp A B s₁ [] I C D ys B₁ o m₂ { s' with heap := h', toks := tk } := by
  have off := L.offI hns
  obtain ⟨⟨h₁, t₁, e1⟩, k1, a1, b1, c1, d1, i1, l1, n1, z1⟩ := L
  exact ⟨⟨h', tk, by rw [e1]⟩, kp_ext k1 x.i hs, fun p hp => (a1 p hp).extBut hs (off p hp), b1, c1, d1, hs _ _ (x.z _ (.head _)).1 (z1 _ (.head _)), l1.extBut hs (Ne.symm x.id), n1.extBut hs (Ne.symm x.ic), fun _ hp => (nomatch hp)⟩
end Lp

section
variable {prog : Program} {w : World} {h00 : Heap} {mg mb : Str → Option Value} {A : Around} {env : Env} {m cm : Str → Option Value} {B : Led} {s₁ : Shared}

/-- the inner clause of one outer turn -/
def Inn (prog : Program) (w : World) (h00 : Heap) (mg mb : Str → Option Value) (A : Around) (cenv : Env) (cm : Str → Option Value) (x y : Str) (v : Value) (i2 elt : PySem.Expr) (ys : List Value) (B₁ : Led) (s₃ : Shared) (J : List Value → Led → Prop) : Prop :=
  wpAny (model prog w) A (eval i2 cenv) (fun xv s₄ => ∃ B₂ n2 P2, Stp A B₁ s₃ B₂ s₄ ∧ Src prog w A B₂ xv n2 P2 s₄ ∧ ∃ (K : Nat → List Value → Led → Prop), K 0 ys B₂ ∧
       (∀ j u ys' B₃ s₅ m₃, j < n2 → P2 j u → (∀ p ∈ B₂, p ∈ B₃) → K j ys' B₃ → m₃ x = some v → Rd h00 mg mb A cenv (upd m₃ y u) cm B₃ s₅.heap → Con prog w A (eval elt cenv) B₃ s₅ (fun B₄ e => ys'.length ≤ sizeLine ∧ K (j + 1) (ys' ++ [e]) B₄)) ∧
       (∀ ys' B₃, (∀ p ∈ B₂, p ∈ B₃) → K n2 ys' B₃ → J ys' B₃)) (fun _ _ => False) s₃

theorem comp2_core {elt i1 i2 : PySem.Expr} {x y : Str} {px py : Pos} {scope : Scope} {cl : List (Str × Addr)} {pos : Pos} {n : Nat} {P : Nat → Value → Prop} {St : Nat → Obj → Prop} {oI : Obj} {E : Value → Shared → Prop}
    {RR : Value → Addr → Result → Shared → Prop} (R : Rd h00 mg mb A env m cm B s₁.heap) (T : Iter prog w A s₁.heap.objs.size B n P St) (hf : oI.isFreed = false) (hst : St 0 oI) (hcl : ∀ n c, cl.lookup n = some c → env.cells.lookup n = some c)
    (hcell : ∀ y ∈ scope.names, y.2 ≠ .cell) (hkind : scope.kind = .function) (hx : scope.names.lookup x = some .local) (hy : scope.names.lookup y = some .local) (hxy : x ≠ y) (hs2 : ∀ (C : Addr) (x : Value), foldedSetIterable i2 (compEnvC scope cl C env) x = pure x)
    (J : Nat → List Value → Led → Prop) (h0 : J 0 [] B)
    (turn : ∀ i v ys B₁ s₃ C m₂, i < n → P i v → (∀ p ∈ B, p ∈ B₁) → J i ys B₁ → Rd h00 mg mb A (compEnvC scope cl C env) (upd m₂ x v) cm B₁ s₃.heap → Inn prog w h00 mg mb A (compEnvC scope cl C env) cm x y v i2 elt ys B₁ s₃ (J (i + 1)))
    (fin : ∀ D C m₃ ys B₁ s', D ≠ C → s₁.heap.get? C = none → s'.heap.Ns C m₃ → (∀ p ∈ B, p ∈ B₁) → J n ys B₁ → Stp A B s₁ ((D, ys) :: B₁) s' → RR (.ref D) C (.ok .next) s') :
    wpAny (model prog w) A (newList []) (fun acc s₃ => wpAny (model prog w) A (newFunctionEnv scope env.globals cl [] env.qual none .none (some env)) (fun cenv s₄ =>
      codeAny (model prog w) A (.compStart (.ListComp elt [⟨.Name x px, i1, [], 0⟩, ⟨.Name y py, i2, [], 0⟩] scope pos) 0 (.ref s₁.heap.objs.size) acc { cenv with scope := relabel scope env }) (RR acc cenv.locals) s₄) E s₃) E { s₁ with heap := s₁.heap.push oI } := by
  refine wpAny_newObj_type (wpAny_newFunctionEnv hcell (by intro y hy; simp at hy) (fun h₁ hns₁ hsb₁ => ?_) hkind)
  dsimp only at hns₁ hsb₁ ⊢
  generalize hH1 : s₁.heap.push oI = H1 at hns₁ hsb₁ ⊢
  have hD : H1.objs.size = s₁.heap.objs.size + 1 := by rw [← hH1, Heap.size_push]
  generalize hH2 : H1.push { cls := .type "list", dict := none, data := .seq ([] : List Value).toArray } = H2 at hns₁ hsb₁ ⊢
  have hC : H2.objs.size = s₁.heap.objs.size + 2 := by rw [← hH2, Heap.size_push, hD]
  have hno : ∀ a, s₁.heap.objs.size ≤ a → s₁.heap.get? a = none := fun a ha => Heap.get?_none_of_le ha
  have X : Apart3 A s₁.heap [] s₁.heap.objs.size H2.objs.size H1.objs.size := by
    refine ⟨?_, ?_, ?_, hno _ (Nat.le_refl _), hno _ ?_, hno _ ?_, fun hm => ?_, fun _ hp => (nomatch hp)⟩
    · rw [hC]; exact Nat.ne_of_lt (Nat.lt_succ_of_lt (Nat.lt_succ_self _))
    · rw [hD]; exact Nat.ne_of_lt (Nat.lt_succ_self _)
    · rw [hC, hD]; exact Nat.ne_of_gt (Nat.lt_succ_self _)
    · rw [hC]; exact Nat.le_add_right _ _
    · rw [hD]; exact Nat.le_succ _
    · obtain ⟨o, ho⟩ := R.gl.mem hm
      exact Nat.lt_irrefl _ (Heap.lt_size ho)
  have lt : ∀ b o, s₁.heap.get? b = some o → b ≠ H2.objs.size := fun b o e q => by rw [q, X.c] at e; cases e
  have old : ∀ b o, s₁.heap.get? b = some o → h₁.get? b = some o := fun b o e =>
    hsb₁.extBut b o (lt b o e) (Heap.get?_push_of_some _ (hH2 ▸ Heap.get?_push_of_some _ (hH1 ▸ Heap.get?_push_of_some _ e)))
  have L : Lp A B s₁ [] s₁.heap.objs.size H2.objs.size H1.objs.size [] B oI (fun _ => none) { s₁ with heap := h₁, toks := s₁.toks + ([] : List (Str × Value)).length } := by
    refine ⟨⟨_, _, rfl⟩, .of_keeps old, (Kp.of_keeps (fr := frs A) old).has R.has, fun _ h => h, fun _ h => .inl h, fun p hp q => ?_, ?_, ?_, hns₁, fun _ hp => (nomatch hp)⟩
    · obtain ⟨o, ho, _⟩ := (R.has p hp).1
      rw [q, X.d] at ho; cases ho
    · exact hsb₁.extBut _ _ X.ic (Heap.get?_push_of_some _ (hH2 ▸ Heap.get?_push_of_some _ (hH1 ▸ Heap.get?_push_size _ hf)))
    · exact Lst.mk (hsb₁.extBut _ _ (Ne.symm X.cd) (Heap.get?_push_of_some _ (hH2 ▸ Heap.get?_push_size _ rfl)))
  generalize H2.objs.size = C at *
  generalize H1.objs.size = D at *
  generalize s₁.heap.objs.size = I at *
  have loop : codeAny (model prog w) A (.compLoop (.ListComp elt [⟨.Name x px, i1, [], 0⟩, ⟨.Name y py, i2, [], 0⟩] scope pos) 0 (.ref I) (.ref D) (compEnvC scope cl C env)) (RR (.ref D) C) { s₁ with heap := h₁, toks := s₁.toks + ([] : List (Str × Value)).length } := by
    refine compLoop_out (fun k s' => ∃ i o m₃ ys B₁, i ≤ n ∧ k = n + 1 - i ∧ St i o ∧ J i ys B₁ ∧ Lp A B s₁ [] I C D ys B₁ o m₃ s') ?_ (n + 1) ⟨0, oI, _, [], B, Nat.zero_le _, rfl, hst, h0, L⟩ (by intro _; rfl) (hs2 C)
    rintro k s' ⟨i, o, m₃, ys, B₁, hi, rfl, hst', hJ, L'⟩
    have hasB : Has s'.heap B := fun p hp => L'.has p (L'.sub p hp)
    by_cases hlt : i < n
    · refine T.item i s' o _ _ hlt hasB L'.hI hst' fun v h' tk o' hP ho' hst'' hs' => ?_
      have L₁ := L'.next (tk := tk) X (T.notSeq _ _ hst') hs' ho'
      refine wpAny_assign_Name (wpAny_storeName_local (lookup_relabel_local hx) L₁.hC (fun h₂ hn₂ hs₂ => ?_) (by simp [compEnvC, relabel, hkind]))
      have L₂ := L₁.set (tk := tk + 1) X hs₂ hn₂
      have R₂ : Rd h00 mg mb A (compEnvC scope cl C env) (upd m₃ x v) cm B₁ h₂ := ⟨R.e0, R.gl.kp L₂.kp, hn₂, fun n c hc => L₂.kp.isCell (R.cell n c (hcl n c hc)), L₂.has⟩
      refine wpAny_mono (turn i v ys B₁ { s' with heap := h₂, toks := tk + 1 } C m₃ hlt hP L'.sub hJ R₂) (fun xv s₃ h₃ => ?_) fun _ _ q => q.elim
      obtain ⟨B₂, n2, P2, z, ⟨oI2, St2, hf2, T2, hst2, hit2⟩, K, hK0, inner, hKe⟩ := h₃
      refine hit2 _ _ ?_
      have L₃ := L₂.step X z
      have L₄ := L₃.inn (o₂ := oI2) hf2
      have n1 : s₁.heap.get? s₃.heap.objs.size = none := L₃.kp.some (Heap.get?_none_of_le (Nat.le_refl _))
      have ne : ∀ b, (∃ o, s₃.heap.get? b = some o) → s₃.heap.objs.size ≠ b := fun b ⟨o, e⟩ => Nat.ne_of_gt (Heap.lt_size e)
      have nC : s₃.heap.objs.size ≠ C := ne _ (let ⟨o, _, _, e, _⟩ := L₃.hC; ⟨o, e⟩)
      have nD : s₃.heap.objs.size ≠ D := ne _ (let ⟨o, e, _⟩ := L₃.hD.1; ⟨o, e⟩)
      have nI : s₃.heap.objs.size ≠ I := ne _ ⟨_, L₃.hI⟩
      have X₂ : Apart3 A s₁.heap [(I, o')] s₃.heap.objs.size C D := by
        refine ⟨nC, nD, X.cd, n1, X.c, X.d, fun hm => ?_, fun p hp => ?_⟩
        · obtain ⟨o, ho⟩ := R.gl.mem hm
          rw [n1] at ho; cases ho
        · rw [List.mem_singleton.mp hp]
          exact ⟨Ne.symm nI, X.ic, X.id, X.fi⟩
      generalize s₃.heap.objs.size = I₂ at *
      have inloop : codeAny (model prog w) A (.compLoop (.ListComp elt [⟨.Name x px, i1, [], 0⟩, ⟨.Name y py, i2, [], 0⟩] scope pos) 1 (.ref I₂) (.ref D) (compEnvC scope cl C env))
          (fun r s' => match r with | .ok _ => ∃ m, m < n + 1 - i ∧ ∃ i o m₃ ys B₁, i ≤ n ∧ m = n + 1 - i ∧ St i o ∧ J i ys B₁ ∧ Lp A B s₁ [] I C D ys B₁ o m₃ s' | .error _ => False) { s₃ with heap := s₃.heap.push oI2 } := by
        refine compLoop_in (fun k s' => ∃ j o₂ m₄ ys' B₃, j ≤ n2 ∧ k = n2 + 1 - j ∧ St2 j o₂ ∧ (∀ p ∈ B₂, p ∈ B₃) ∧ K j ys' B₃ ∧ m₄ x = some v ∧ Lp A B s₁ [(I, o')] I₂ C D ys' B₃ o₂ m₄ s') ?_ (n2 + 1) ⟨0, oI2, _, ys, B₂, Nat.zero_le _, rfl, hst2, fun _ h => h, hK0, by simp [upd], L₄⟩
        rintro k s' ⟨j, o₂, m₄, ys', B₃, hj, rfl, hst2', hsub', hK, hm4, L5⟩
        have hasB2 : Has s'.heap B₂ := fun p hp => L5.has p (hsub' p hp)
        by_cases hlt2 : j < n2
        · refine T2.item j s' o₂ _ _ hlt2 hasB2 L5.hI hst2' fun u h' tk o₂' hP2 ho2' hst2'' hs' => ?_
          have L6 := L5.next (tk := tk) X₂ (T2.notSeq _ _ hst2') hs' ho2'
          refine wpAny_assign_Name (wpAny_storeName_local (lookup_relabel_local hy) L6.hC (fun h₃ hn₃ hs₃ => ?_) (by simp [compEnvC, relabel, hkind]))
          have L7 := L6.set (tk := tk + 1) X₂ hs₃ hn₃
          have R₃ : Rd h00 mg mb A (compEnvC scope cl C env) (upd m₄ y u) cm B₃ h₃ := ⟨R.e0, R.gl.kp L7.kp, hn₃, fun n c hc => L7.kp.isCell (R.cell n c (hcl n c hc)), L7.has⟩
          refine wpAny_mono (inner j u ys' B₃ { s' with heap := h₃, toks := tk + 1 } m₄ hlt2 hP2 hsub' hK hm4 R₃) (fun e s₄ h₄ => ?_) fun _ _ q => q.elim
          obtain ⟨B₄, z2, hsz, hK'⟩ := h₄
          have L8 := L7.step X₂ z2
          refine append_lst L8.hD (fun h₅ hl₅ hs₅ => ?_) (by simpa using hsz)
          exact ⟨n2 + 1 - (j + 1), by omega, j + 1, o₂', _, ys' ++ [e], B₄, hlt2, rfl, hst2'', fun p hp => z2.sub p (hsub' p hp), hK', by simp [upd, hxy, hm4], L8.app (tk := s₄.toks) X₂ hs₅ hl₅⟩
        · have e : j = n2 := by omega
          subst e
          refine T2.done s' o₂ _ _ hasB2 L5.hI hst2' fun h' tk hs' => ?_
          exact ⟨n + 1 - (i + 1), by omega, i + 1, o', m₄, ys', B₃, hlt, rfl, hst'', hKe ys' B₃ hsub' hK, L5.out (tk := tk) X₂ (T2.notSeq _ _ hst2') hs'⟩
      exact compStart_in inloop (T2.self 0 _ oI2 _ _ L₄.hI hst2 inloop)
    · have e : i = n := by omega
      subst e
      refine T.done s' o _ _ hasB L'.hI hst' fun h' tk hs' => ?_
      obtain ⟨a, b⟩ := L'.fin (tk := tk) X (T.notSeq _ _ hst') hs'
      exact fin D C m₃ ys B₁ _ (Ne.symm X.cd) X.c b L'.sub hJ a
  exact codeAny_compStart_list loop (T.self 0 _ oI _ _ L.hI hst loop)
end

section
variable {prog : Program} {w : World} {h00 : Heap} {mg mb : Str → Option Value} {A : Around} {env : Env} {m cm : Str → Option Value} {B : Led}
theorem con_comp2 {elt i1 i2 : PySem.Expr} {x y : Str} {px py : Pos} {scope : Scope} {cl : List (Str × Addr)} {pos : Pos} {n : Nat} {P : Nat → Value → Prop} {s : Shared} {P' : Led → Value → Prop}
    (_R : Rd h00 mg mb A env m cm B s.heap) (hclos : closureFor scope env = pure cl)
    (h : wpAny (model prog w) A (eval i1 env) (fun xv s₁ => ∃ B₁, Stp A B s B₁ s₁ ∧ Rd h00 mg mb A env m cm B₁ s₁.heap ∧ Src prog w A B₁ xv n P s₁ ∧ ∃ (J : Nat → List Value → Led → Prop), J 0 [] B₁ ∧
      (∀ i v ys B₂ s₃ C m₂, i < n → P i v → (∀ p ∈ B₁, p ∈ B₂) → J i ys B₂ → Rd h00 mg mb A (compEnvC scope cl C env) (upd m₂ x v) cm B₂ s₃.heap → Inn prog w h00 mg mb A (compEnvC scope cl C env) cm x y v i2 elt ys B₂ s₃ (J (i + 1))) ∧
      (∀ D ys B₂, (∀ p ∈ B₁, p ∈ B₂) → J n ys B₂ → P' ((D, ys) :: B₂) (.ref D))) (fun _ _ => False) s)
    (hcl : ∀ n c, cl.lookup n = some c → env.cells.lookup n = some c) (hxy : x ≠ y := by decide) (hcell : ∀ y ∈ scope.names, y.2 ≠ .cell := by decide) (hkind : scope.kind = .function := by rfl) (hx : scope.names.lookup x = some .local := by rfl) (hy : scope.names.lookup y = some .local := by rfl)
    (hnames : ∀ y ∈ scope.names, y.2 = .local → scope.names.lookup y.1 = some .local := by decide) (hs : ∀ x, foldedSetIterable i1 env x = pure x := by intro _; rfl) (hs2 : ∀ (C : Addr) (x : Value), foldedSetIterable i2 (compEnvC scope cl C env) x = pure x := by intro _ _; rfl) :
    Con prog w A (eval (.ListComp elt [⟨.Name x px, i1, [], 0⟩, ⟨.Name y py, i2, [], 0⟩] scope pos) env) B s P' := by
  unfold Con
  rw [eval_ListComp]
  refine wpAny_comprehension_free (use := none) rfl hs hclos hkind hnames (wpAny_mono h (fun xv s₁ h₁ => ?_) fun _ _ e => e)
  obtain ⟨B₁, x1, R, ⟨oI, St, hf, T, hst, hit⟩, J, h0, turn, fin⟩ := h₁
  refine hit _ _ ?_
  refine comp2_core (RR := fun acc C => compPost (model prog w) A (fun _ _ => False) none _ acc C) R T hf hst hcl hcell hkind hx hy hxy hs2 J h0 turn fun D C m₃ ys B₂ s' hDC hC hn hsub hJ y => ?_
  exact ⟨m₃, hn, fun h' hs' => ⟨_, x1.trans (y.but hs'.extBut hC hn), fin D ys B₂ hsub hJ⟩⟩
end

section
variable {prog : Program} {w : World} {h00 : Heap} {mg mb : Str → Option Value} {A₀ : Around} {B₀ : Led} {s₀ : Shared} {env : Env} {m cm : Str → Option Value} {Z : List (Addr × Obj)} {B : Led} {s : Shared}
theorem assign_comp2 {elt i1 i2 : PySem.Expr} {x x2 y : Str} {px px2 py : Pos} {scope : Scope} {cl : List (Str × Addr)} {pos spos : Pos} {n : Nat} {P : Nat → Value → Prop} {Q : Flow → Shared → Prop} {E : Value → Shared → Prop}
    (_F : Fm h00 mg mb A₀ B₀ s₀ env m cm Z B s) (hclos : closureFor scope env = pure cl) (hsw : swapsWith (.ListComp elt [⟨.Name x px, i1, [], 0⟩, ⟨.Name x2 px2, i2, [], 0⟩] scope pos) (some (.Name y py)) spos.line env = pure true)
    (h : wpAny (model prog w) (A₀.deeper env) (eval i1 env) (fun xv s₁ => ∃ B₁, Fm h00 mg mb A₀ B₀ s₀ env m cm Z B₁ s₁ ∧ Src prog w (A₀.deeper env) B₁ xv n P s₁ ∧ ∃ (J : Nat → List Value → Led → Prop), J 0 [] B₁ ∧
      (∀ i v ys B₂ s₃ C m₂, i < n → P i v → (∀ p ∈ B₁, p ∈ B₂) → J i ys B₂ → Rd h00 mg mb (A₀.deeper env) (compEnvC scope cl C env) (upd m₂ x v) cm B₂ s₃.heap → Inn prog w h00 mg mb (A₀.deeper env) (compEnvC scope cl C env) cm x x2 v i2 elt ys B₂ s₃ (J (i + 1))) ∧
      (∀ D ys B₂ s', (∀ p ∈ B₁, p ∈ B₂) → J n ys B₂ → Fm h00 mg mb A₀ B₀ s₀ env (upd m y (.ref D)) cm Z ((D, ys) :: B₂) s' → Q .next s')) (fun _ _ => False) s)
    (hcl : ∀ n c, cl.lookup n = some c → env.cells.lookup n = some c) (hxy : x ≠ x2 := by decide) (hk : env.scope.kind = .function := by rfl) (hy : env.kindOf y = some .local := by rfl) (hcell : ∀ y ∈ scope.names, y.2 ≠ .cell := by decide) (hkind : scope.kind = .function := by rfl)
    (hx : scope.names.lookup x = some .local := by rfl) (hx2 : scope.names.lookup x2 = some .local := by rfl)
    (hnames : ∀ y ∈ scope.names, y.2 = .local → scope.names.lookup y.1 = some .local := by decide) (hs : ∀ x, foldedSetIterable i1 env x = pure x := by intro _; rfl) (hs2 : ∀ (C : Addr) (x : Value), foldedSetIterable i2 (compEnvC scope cl C env) x = pure x := by intro _ _; rfl) :
    wpAny (model prog w) (A₀.deeper env) (exec (.Assign [.Name y py] (.ListComp elt [⟨.Name x px, i1, [], 0⟩, ⟨.Name x2 px2, i2, [], 0⟩] scope pos) spos) env) Q E s := by
  refine wpAny_noRaise ?_
  rw [exec_Assign_Name_used _ _ _ _ hsw]
  refine wpAny_bind (wpAny_standAt (wpAny_bind ?_))
  show wpAny _ (A₀.deeper env) (do let _ ← comprehension (.ListComp elt [⟨.Name x px, i1, [], 0⟩, ⟨.Name x2 px2, i2, [], 0⟩] scope pos) scope env _ (newList []) false (eval i1 env) (some (assign (.Name y py) env))) _ _ s
  refine wpAny_bind (wpAny_mono (wpAny_comprehension_free (use := some (assign (.Name y py) env)) (Q := fun _ s' => Q .next s') rfl hs hclos hkind hnames
    (wpAny_mono h (fun xv s₁ h₁ => ?_) fun _ _ e => e)) (fun _ s' hq => wpAny_pure (wpAny_pure hq)) fun _ _ e => e)
  obtain ⟨B₁, F₁, ⟨oI, St, hf, T, hst, hit⟩, J, h0, turn, fin⟩ := h₁
  refine hit _ _ ?_
  refine comp2_core (RR := fun acc C => compPost (model prog w) (A₀.deeper env) (fun _ _ => False) (some (assign (.Name y py) env)) (fun _ s' => Q .next s') acc C) F₁.rd T hf hst hcl hcell hkind hx hx2 hxy hs2 J h0 turn fun D C m₃ ys B₂ s' hDC hC hn hsub hJ z => ?_
  show wpAny _ _ (assign (.Name y py) env (.ref D)) _ _ _
  have F₂ := F₁.go z
  obtain ⟨oC, es, ep, hoC, hdC, hrC⟩ := hn
  have F₃ := F₂.addpin F₁ hoC hC (fun xs n q => by rw [hdC] at q; cases q)
  refine wpAny_assign_Name (F₃.st (fun s₄ F₄ => ?_) hk hy)
  refine ⟨m₃, ⟨oC, es, ep, (F₄.pin _ (.head _)).1, hdC, hrC⟩, fun h' hs' => ?_⟩
  refine fin D ys B₂ _ hsub hJ (F₄.unpin (tk := s₄.toks) hs'.extBut fun p hp e => ?_)
  have h1 := (F₁.pin p hp).1
  rw [e, hC] at h1; cases h1
end
end Mine

end
section
open PySem PySem.W PyProof.Rows PySem.Calls
set_option Elab.async false
set_option autoImplicit false
namespace Mine

inductive All2 {α : Type} (r : Value → α → Prop) : List Value → List α → Prop
  | nil : All2 r [] []
  | cons {v x vs xs} : r v x → All2 r vs xs → All2 r (v :: vs) (x :: xs)
namespace All2
variable {α β : Type} {r r' : Value → α → Prop}
theorem len {vs : List Value} {xs : List α} (h : All2 r vs xs) : vs.length = xs.length := by
  induction h with
  | nil => rfl
  | cons _ _ ih => simp [ih]
theorem mono {vs : List Value} {xs : List α} (h : All2 r vs xs) (k : ∀ v x, r v x → r' v x) : All2 r' vs xs := by
  induction h with
  | nil => exact .nil
  | cons h _ ih => exact .cons (k _ _ h) ih
theorem app {vs ws : List Value} {xs ys : List α} (h : All2 r vs xs) (k : All2 r ws ys) : All2 r (vs ++ ws) (xs ++ ys) := by
  induction h with
  | nil => exact k
  | cons h _ ih => exact .cons h ih
theorem one {v : Value} {x : α} (h : r v x) : All2 r [v] [x] := .cons h .nil
theorem get {vs : List Value} {xs : List α} (h : All2 r vs xs) {i : Nat} {v : Value} (e : vs[i]? = some v) : ∃ x, xs[i]? = some x ∧ r v x := by
  induction h generalizing i with
  | nil => simp at e
  | cons h _ ih =>
    cases i with
    | zero => simp at e; subst e; exact ⟨_, rfl, h⟩
    | succ i => exact ih (by simpa using e)
theorem get' {vs : List Value} {xs : List α} (h : All2 r vs xs) {i : Nat} {x : α} (e : xs[i]? = some x) : ∃ v, vs[i]? = some v ∧ r v x := by
  induction h generalizing i with
  | nil => simp at e
  | cons h _ ih =>
    cases i with
    | zero => simp at e; subst e; exact ⟨_, rfl, h⟩
    | succ i => exact ih (by simpa using e)
theorem take {vs : List Value} {xs : List α} (h : All2 r vs xs) : ∀ n, All2 r (vs.take n) (xs.take n) := by
  induction h with
  | nil => intro n; simpa using All2.nil
  | cons h _ ih =>
    intro n
    cases n with
    | zero => exact .nil
    | succ n => exact .cons h (ih n)
theorem drop {vs : List Value} {xs : List α} (h : All2 r vs xs) : ∀ n, All2 r (vs.drop n) (xs.drop n) := by
  induction h with
  | nil => intro n; simpa using All2.nil
  | cons h t ih =>
    intro n
    cases n with
    | zero => exact .cons h t
    | succ n => exact ih n
end All2

/-- a kind of data: how the ledger bears it, and that == tells it -/
structure Kind (α : Type) where
  rel : Led → Value → α → Prop
  deep : Nat
  mono : ∀ {B B' : Led} {v x}, (∀ p ∈ B, p ∈ B') → rel B v x → rel B' v x
  func : ∀ {h : Heap} {B : Led} {v x y}, Has h B → rel B v x → rel B v y → x = y
  eq : ∀ {A : Around} {s : Shared} {B : Led} {v w x y}, Has s.heap B → rel B v x → rel B w y → A.units + deep < cLine → ∀ b : Bool, (b = true ↔ x = y) → SeqAt.EqAt A s v w b

def LIs (B : Led) (v : Value) (vs : List Value) : Prop := ∃ a, v = .ref a ∧ (a, vs) ∈ B
theorem LIs.mono {B B' : Led} {v : Value} {vs : List Value} (h : LIs B v vs) (k : ∀ p ∈ B, p ∈ B') : LIs B' v vs := let ⟨a, e, m⟩ := h; ⟨a, e, k _ m⟩

def kInt : Kind Int where
  rel := fun _ v x => ∃ t, v = .int x t
  deep := 0
  mono := fun _ h => h
  func := fun _ ⟨_, e⟩ ⟨_, e'⟩ => by rw [e] at e'; cases e'; rfl
  eq := by
    rintro A s B _ _ x y _ ⟨t, rfl⟩ ⟨u, rfl⟩ _ b hb
    have h := (MeetsSeq.EqGives.int x y t u).at A s
    have e : b = (x == y) := by rw [Bool.eq_iff_iff, hb]; simp
    rw [e]; exact h

theorem has_uniq {h : Heap} {B : Led} {a : Addr} {vs ws : List Value} (hb : Has h B) (m : (a, vs) ∈ B) (m' : (a, ws) ∈ B) : vs = ws := by
  obtain ⟨⟨o, ho, _, n, hd⟩, _⟩ := hb _ m
  obtain ⟨⟨o', ho', _, n', hd'⟩, _⟩ := hb _ m'
  simp only at ho ho'
  rw [ho] at ho'; cases ho'; rw [hd] at hd'; cases hd'; rfl

theorem all_range {α : Type} [DecidableEq α] (xs ys : List α) (h : xs.length = ys.length) : ((List.range xs.length).all fun j => decide (xs[j]? = ys[j]?)) = true ↔ xs = ys := by
  constructor
  · intro q
    apply List.ext_getElem?
    intro i
    rw [List.all_eq_true] at q
    by_cases hi : i < xs.length
    · simpa using q i (by simpa using hi)
    · rw [List.getElem?_eq_none (by omega), List.getElem?_eq_none (by omega)]
  · rintro rfl; simp

section
variable {α : Type} (k : Kind α)

theorem Kind.rc {A : Around} {s : Shared} {B : Led} {a b : Addr} {vs ws : List Value} {xs ys : List α} (hb : Has s.heap B) (ma : (a, vs) ∈ B) (ra : All2 (k.rel B) vs xs) (mb : (b, ws) ∈ B) (rb : All2 (k.rel B) ws ys) (hu : A.units + (k.deep + 1) < cLine) (d : Bool) (hd : d = true ↔ xs = ys) :
    SeqAt.RcAt A s (.ref a) (.ref b) d := by
  classical
  have hl : s.heap.IsList a vs.toArray := (hb _ ma).1
  have hl' : s.heap.IsList b ws.toArray := (hb _ mb).1
  have e1 : vs.length = xs.length := ra.len
  have e2 : ws.length = ys.length := rb.len
  by_cases hsz : xs.length = ys.length
  · have h := SeqAt.RcAt.lists (A := A) (e := fun j => decide (xs[j]? = ys[j]?)) hl hl' (by simp; omega) (by omega) (fun j h1 h2 => by
      simp at h1 h2
      obtain ⟨x, ex, rx⟩ := ra.get (i := j) (v := vs[j]) (by simp [h1])
      obtain ⟨y, ey, ry⟩ := rb.get (i := j) (v := ws[j]) (by simp [h2])
      have q := k.eq (A := A.in1) (s := s) hb rx ry (by simp [Around.in1]; omega) (decide (xs[j]? = ys[j]?)) (by rw [ex, ey]; simp)
      simpa using q)
    have e4 : vs.toArray.size = xs.length := by simp [e1]
    rw [e4] at h
    rw [show d = ((List.range xs.length).all fun j => decide (xs[j]? = ys[j]?)) from by rw [Bool.eq_iff_iff, hd, all_range xs ys hsz]]
    exact h
  · have h := SeqAt.RcAt.lists_lengths (A := A) hl hl' (by simp; omega) (by omega)
    rw [show d = false from by rw [Bool.eq_false_iff, Ne, hd]; exact fun q => hsz (by rw [q])]
    exact h

theorem Kind.rcNe {A : Around} {s : Shared} {B : Led} {a b : Addr} {vs ws : List Value} {xs ys : List α} (hb : Has s.heap B) (ma : (a, vs) ∈ B) (ra : All2 (k.rel B) vs xs) (mb : (b, ws) ∈ B) (rb : All2 (k.rel B) ws ys) (hu : A.units + (k.deep + 1) < cLine) (d : Bool) (hd : d = true ↔ xs ≠ ys) :
    SeqAt.RcNeAt A s (.ref a) (.ref b) d := by
  classical
  have hl : s.heap.IsList a vs.toArray := (hb _ ma).1
  have hl' : s.heap.IsList b ws.toArray := (hb _ mb).1
  have e1 : vs.length = xs.length := ra.len
  have e2 : ws.length = ys.length := rb.len
  by_cases hsz : xs.length = ys.length
  · have h := SeqAt.RcNeAt.lists (A := A) (e := fun j => decide (xs[j]? = ys[j]?)) hl hl' (by simp; omega) (by omega) (fun j h1 h2 => by
      simp at h1 h2
      obtain ⟨x, ex, rx⟩ := ra.get (i := j) (v := vs[j]) (by simp [h1])
      obtain ⟨y, ey, ry⟩ := rb.get (i := j) (v := ws[j]) (by simp [h2])
      have q := k.eq (A := A.in1) (s := s) hb rx ry (by simp [Around.in1]; omega) (decide (xs[j]? = ys[j]?)) (by rw [ex, ey]; simp)
      simpa using q)
    have e4 : vs.toArray.size = xs.length := by simp [e1]
    rw [e4] at h
    rw [show d = !((List.range xs.length).all fun j => decide (xs[j]? = ys[j]?)) from by rw [Bool.eq_iff_iff, hd, Bool.not_eq_true', Ne, ← all_range xs ys hsz]; simp]
    exact h
  · have h := SeqAt.RcNeAt.lists_lengths (A := A) hl hl' (by simp; omega) (by omega)
    rw [show d = true from by rw [hd]; exact fun q => hsz (by rw [q])]
    exact h

def Kind.list : Kind (List α) where
  rel := fun B v xs => ∃ a vs, v = .ref a ∧ (a, vs) ∈ B ∧ All2 (k.rel B) vs xs
  deep := k.deep + 1
  mono := fun hs ⟨a, vs, e, m, r⟩ => ⟨a, vs, e, hs _ m, r.mono fun _ _ h => k.mono hs h⟩
  func := by
    rintro h B _ xs ys hb ⟨a, vs, rfl, m, r⟩ ⟨a', vs', e, m', r'⟩
    cases e
    obtain rfl := has_uniq hb m m'
    clear m m'
    induction r generalizing ys with
    | nil => cases r'; rfl
    | cons h _ ih =>
      cases r' with
      | cons h' t' => rw [k.func hb h h', ih t']
  eq := by
    rintro A s B _ _ xs ys hb ⟨a, vs, rfl, m, r⟩ ⟨b, ws, rfl, m', r'⟩ hu d hd
    by_cases hab : a = b
    · subst hab
      obtain rfl := has_uniq hb m m'
      have e : xs = ys := by
        clear m m' hu hd
        induction r generalizing ys with
        | nil => cases r'; rfl
        | cons h _ ih =>
          cases r' with
          | cons h' t' => rw [k.func hb h h', ih t']
      rw [hd.mpr e]
      exact .same _
    · exact .of_refs hab (k.rc hb m r m' r' hu d hd)
end
end Mine

end
section
open PySem PySem.W PyProof.Rows PySem.Calls
set_option Elab.async false
set_option autoImplicit false
namespace Mine

section
variable {prog : Program} {w : World} {A : Around} {B : Led} {s : Shared} {E : Value → Shared → Prop} {α : Type} (k : Kind α)

theorem fresh_size (h : Heap) : h.get? h.objs.size = none := Heap.get?_none_of_le (Nat.le_refl _)

theorem stp_list (hb : Has s.heap B) {vs : List Value} {tk : Nat} : Stp A B s ((s.heap.objs.size, vs) :: B) { s with heap := s.heap.push { cls := .type "list", data := .seq vs.toArray }, toks := tk } :=
  .alloc hb (fun b o e => Heap.get?_push_of_some _ e) (fresh_size _) (.mk (Heap.get?_push_size _ rfl))

/-- list + list -/
theorem con_add {v u : Value} {xs ys : List α} (hb : Has s.heap B) (hv : k.list.rel B v xs) (hu : k.list.rel B u ys) (hsz : xs.length + ys.length ≤ sizeLine) :
    Con prog w A (binaryOp .Add v u) B s (fun B' r => k.list.rel B' r (xs ++ ys)) := by
  obtain ⟨l, vs, rfl, m, r⟩ := hv
  obtain ⟨b, ws, rfl, m', r'⟩ := hu
  obtain ⟨⟨cls, dd, data, sl⟩, ho, hc, n, hd⟩ := (hb _ m).1
  obtain ⟨⟨cls2, dd2, data2, sl2⟩, ho2, hc2, n2, hd2⟩ := (hb _ m').1
  simp only at hc hd hc2 hd2
  subst hc hd hc2 hd2
  have e : vs.toArray ++ ws.toArray = (vs ++ ws).toArray := by simp
  have z := r.len
  have z' := r'.len
  refine concat_meets ⟨_, ho, rfl⟩ ⟨_, ho2, rfl⟩ noFill_list_add seq_list_add PySem.F.slot_list_add PySem.F.entry_list_add (PySem.F.args_list_add_2 _ _) (list_addW l b vs.toArray ws.toArray n n2 dd dd2 sl sl2 (by simp; omega)) ⟨ho, ho2, ?_⟩
  rw [e]
  exact ⟨_, stp_list hb, s.heap.objs.size, vs ++ ws, rfl, .head _, (r.mono fun _ _ h => k.mono (fun _ h => .tail _ h) h).app (r'.mono fun _ _ h => k.mono (fun _ h => .tail _ h) h)⟩

theorem eq_lists {v u : Value} {xs ys : List α} {Q : Value → Shared → Prop} (hb : Has s.heap B) (hv : k.list.rel B v xs) (hu : k.list.rel B u ys) (hA : A.units + (k.deep + 1) < cLine) (d : Bool) (hd : d = true ↔ xs = ys) (h : Q (.bool d) s) :
    wpAny (model prog w) A (compareOp .Eq v u) Q E s := by
  obtain ⟨l, vs, rfl, m, r⟩ := hv
  obtain ⟨b, ws, rfl, m', r'⟩ := hu
  exact k.rc hb m r m' r' hA d hd prog w E Q h
theorem ne_lists {v u : Value} {xs ys : List α} {Q : Value → Shared → Prop} (hb : Has s.heap B) (hv : k.list.rel B v xs) (hu : k.list.rel B u ys) (hA : A.units + (k.deep + 1) < cLine) (d : Bool) (hd : d = true ↔ xs ≠ ys) (h : Q (.bool d) s) :
    wpAny (model prog w) A (compareOp .NotEq v u) Q E s := by
  obtain ⟨l, vs, rfl, m, r⟩ := hv
  obtain ⟨b, ws, rfl, m', r'⟩ := hu
  exact k.rcNe hb m r m' r' hA d hd prog w E Q h

open Classical in
theorem any_mem {vs : List Value} {xs : List α} (hb : Has s.heap B) (r : All2 (k.rel B) vs xs) (x : α) : (vs.toArray.any fun y => decide (k.rel B y x)) = true ↔ x ∈ xs := by
  rw [Array.any_eq_true']
  simp only [List.mem_toArray, decide_eq_true_eq]
  constructor
  · rintro ⟨y, hy, hr⟩
    obtain ⟨i, hi, rfl⟩ := List.mem_iff_getElem.mp hy
    obtain ⟨z, ez, rz⟩ := r.get (i := i) (List.getElem?_eq_getElem hi)
    rw [k.func hb hr rz]
    exact List.mem_of_getElem? ez
  · intro hx
    obtain ⟨i, hi, rfl⟩ := List.mem_iff_getElem.mp hx
    obtain ⟨v, ev, rv⟩ := r.get' (i := i) (List.getElem?_eq_getElem hi)
    exact ⟨v, List.mem_of_getElem? ev, rv⟩

open Classical in
theorem in_list {v u : Value} {x : α} {ys : List α} {Q : Value → Shared → Prop} (hb : Has s.heap B) (hv : k.rel B v x) (hu : k.list.rel B u ys) (hA : A.units + (k.deep + 1) < cLine) (d : Bool) (hd : d = true ↔ x ∈ ys) (h : Q (.bool d) s) :
    wpAny (model prog w) A (compareOp .In v u) Q E s := by
  obtain ⟨b, ws, rfl, m', r'⟩ := hu
  refine SeqAt.in_listAt (fun y => decide (k.rel B y x)) (hb _ m').1 (fun y hy => ?_) ?_
  · obtain ⟨i, hi, rfl⟩ := List.mem_iff_getElem.mp (show y ∈ ws by simpa using hy)
    obtain ⟨z, ez, rz⟩ := r'.get (i := i) (List.getElem?_eq_getElem hi)
    refine k.eq hb rz hv (by simp; omega) _ ?_
    rw [decide_eq_true_eq]
    exact ⟨fun q => k.func hb rz q, fun q => q ▸ rz⟩
  · rw [show (ws.toArray.any fun y => decide (k.rel B y x)) = d from by rw [Bool.eq_iff_iff, any_mem k hb r', hd]]
    exact h

open Classical in
/-- what list.__contains__ answers -/
theorem contains_meets {l : Addr} {v : Value} {x : α} {ys : List α} (hb : Has s.heap B) (hv : k.rel B v x) (hu : k.list.rel B (.ref l) ys) (d : Bool) (hd : d = true ↔ x ∈ ys) {Q : Value → Shared → Prop} (hA : A.units + (k.deep + 1) < cLine) (h : Q (.bool d) s) :
    wpAny (model prog w) A (call (.builtin "list.__contains__") [.ref l, v]) Q E s := by
  obtain ⟨b, ws, e, m', r'⟩ := hu
  cases e
  obtain ⟨⟨cls, dd, data, sl⟩, ho, hc, n, hd'⟩ := (hb _ m').1
  simp only at hc hd'
  subst hc hd'
  refine call_meets PySem.F.slot_list_contains ⟨_, ho, rfl⟩ PySem.F.entry_list_contains (PySem.F.args_list_contains_2 _ _) (SeqAt.list_containsAt l ws.toArray n dd sl v fun y => decide (k.rel B y x)) ⟨ho, fun y hy => ?_, ?_⟩
  · obtain ⟨i, hi, rfl⟩ := List.mem_iff_getElem.mp (show y ∈ ws by simpa using hy)
    obtain ⟨z, ez, rz⟩ := r'.get (i := i) (List.getElem?_eq_getElem hi)
    refine k.eq hb rz hv (by simp; omega) _ ?_
    rw [decide_eq_true_eq]
    exact ⟨fun q => k.func hb rz q, fun q => q ▸ rz⟩
  · show Q (.bool _) s
    rw [show (ws.toArray.any fun y => decide (k.rel B y x)) = d from by rw [Bool.eq_iff_iff, any_mem k hb r', hd]]
    exact h

/-- xs[i] -/
theorem item_ {value slice : PySem.Expr} {v : Value} {xs : List α} {i : Nat} {t : Tok} {x : α} {Q : Value → Shared → Prop} (hb : Has s.heap B) (hv : k.list.rel B v xs) (hx : xs[i]? = some x) (hi : i < 2 ^ 62) (h : ∀ v', k.rel B v' x → Q v' s)
    (hs : ∀ l, subscripted slice false (.ref l) (.int (i : Int) t) = operate [.ref l, .int (i : Int) t] (getItem (.ref l) (.int (i : Int) t)) := by intro _; with_unfolding_all rfl) :
    wpAny (model prog w) A (subscriptTail value slice v (.int (i : Int) t)) Q E s := by
  obtain ⟨l, vs, rfl, m, r⟩ := hv
  obtain ⟨v', ev, rv⟩ := r.get' hx
  have hl := (hb _ m).1
  exact tail_any hl.typeIs slot_list_getitem.lookup (wpAny_getItem_list hl (by omega) (by omega) (by simpa using ev) (h v' rv)) (hs l)

/-- a slice -/
theorem slice_ {value slice : PySem.Expr} {v vl vu : Value} {sl : Addr} {xs : List α} {lo hi : Option Int} {ys : List α} {Q : Value → Shared → Prop} (hb : Has s.heap B) (hv : k.list.rel B v xs) (hs : s.heap.IsSliceOf sl vl vu .none) (pl : IsPart vl lo) (pu : IsPart vu hi) (hsz : xs.length ≤ sizeLine)
    (hp : ∀ vs : List Value, vs.length = xs.length → All2 (k.rel B) vs xs → All2 (k.rel B) (slicePick vs.toArray lo hi none).toList ys)
    (h : ∀ v' B' s', Stp A B s B' s' → k.list.rel B' v' ys → Q v' s')
    (hss : ∀ l sl, subscripted slice false (.ref l) (.ref sl) = operate [.ref sl, .ref l] (getItem (.ref l) (.ref sl))) :
    wpAny (model prog w) A (subscriptTail value slice v (.ref sl)) Q E s := by
  obtain ⟨l, vs, rfl, m, r⟩ := hv
  have hl := (hb _ m).1
  have z := r.len
  refine tail_any hl.typeIs slot_list_getitem.lookup (wpAny_getItem_list_slice hl hs pl pu .none (by simp) ?_ (by simpa [z] using hsz)) (hss l sl)
  refine h _ ((s.heap.objs.size, (slicePick vs.toArray lo hi none).toList) :: B) _ ?_ ⟨_, _, rfl, .head _, (hp vs z r).mono fun _ _ q => k.mono (fun _ z => .tail _ z) q⟩
  have := stp_list (A := A) (B := B) (s := s) (tk := s.toks) hb (vs := (slicePick vs.toArray lo hi none).toList)
  simpa using this

theorem sub_upto {value ue : PySem.Expr} {env : Env} {p pos : Pos} {Q : Value → Shared → Prop}
    (h : wpAny (model prog w) A (eval value env) (fun v s₁ => wpAny (model prog w) A (eval ue env) (fun u s₂ => ∃ (B₂ : Led) (xs : List α) (n : Nat) (t : Tok), u = .int (n : Int) t ∧ Has s₂.heap B₂ ∧ k.list.rel B₂ v xs ∧ xs.length ≤ sizeLine ∧
      ∀ v' B' s', Stp A B₂ s₂ B' s' → k.list.rel B' v' (xs.take n) → Q v' s') E s₁) E s) :
    wpAny (model prog w) A (eval (.Subscript value (.Slice none (some ue) none p) pos) env) Q E s := by
  refine Subscript_ (wpAny_mono h (fun v s₁ h₁ => wpAny_Slice (wpAny_evalPart_none (wpAny_evalPart_some (wpAny_mono h₁ (fun u s₂ h₂ => wpAny_evalPart_none ?_) fun _ _ q => q)))) fun _ _ q => q)
  obtain ⟨B₂, xs, n, t, rfl, hb, hv, hsz, hq⟩ := h₂
  have st : Stp A B₂ s₂ B₂ { s₂ with heap := s₂.heap.push { cls := .type "slice", data := .fields #[.none, .int (n : Int) t, .none] } } := .keeps hb fun b o e => Heap.get?_push_of_some _ e
  refine slice_ k (B := B₂) st.has hv (Heap.IsSliceOf.new ..) .none (.int _ _) hsz (fun vs _ r => ?_) (fun v' B' s' x r => hq v' B' s' (st.trans x) r) fun _ _ => rfl
  rw [slicePick_upto']
  simpa using r.take n

theorem sub_from {value le : PySem.Expr} {env : Env} {p pos : Pos} {Q : Value → Shared → Prop}
    (h : wpAny (model prog w) A (eval value env) (fun v s₁ => wpAny (model prog w) A (eval le env) (fun u s₂ => ∃ (B₂ : Led) (xs : List α) (n : Nat) (t : Tok), u = .int (n : Int) t ∧ Has s₂.heap B₂ ∧ k.list.rel B₂ v xs ∧ xs.length ≤ sizeLine ∧
      ∀ v' B' s', Stp A B₂ s₂ B' s' → k.list.rel B' v' (xs.drop n) → Q v' s') E s₁) E s) :
    wpAny (model prog w) A (eval (.Subscript value (.Slice (some le) none none p) pos) env) Q E s := by
  refine Subscript_ (wpAny_mono h (fun v s₁ h₁ => wpAny_Slice (wpAny_evalPart_some (wpAny_mono h₁ (fun u s₂ h₂ => wpAny_evalPart_none (wpAny_evalPart_none ?_)) fun _ _ q => q))) fun _ _ q => q)
  obtain ⟨B₂, xs, n, t, rfl, hb, hv, hsz, hq⟩ := h₂
  have st : Stp A B₂ s₂ B₂ { s₂ with heap := s₂.heap.push { cls := .type "slice", data := .fields #[.int (n : Int) t, .none, .none] } } := .keeps hb fun b o e => Heap.get?_push_of_some _ e
  refine slice_ k (B := B₂) st.has hv (Heap.IsSliceOf.new ..) (.int _ _) .none hsz (fun vs _ r => ?_) (fun v' B' s' x r => hq v' B' s' (st.trans x) r) fun _ _ => rfl
  rw [slicePick_from']
  simpa using r.drop n

theorem ints_of {vs : List Value} {xs : List Int} (r : All2 (kInt.rel B) vs xs) : IntsAre vs xs := by
  induction r with
  | nil => exact .nil
  | cons h _ ih => obtain ⟨t, rfl⟩ := h; exact .cons _ _ ih
theorem ints_to {vs : List Value} {xs : List Int} (r : IntsAre vs xs) : All2 (kInt.rel B) vs xs := by
  induction r with
  | nil => exact .nil
  | cons x t _ ih => exact .cons ⟨t, rfl⟩ ih

theorem len_ {v : Value} {xs : List α} {Q : Value → Shared → Prop} (hb : Has s.heap B) (hv : k.list.rel B v xs) (hsz : xs.length < 2 ^ 62) (h : ∀ t tk, Q (.int (xs.length : Int) t) { s with toks := tk }) : wpAny (model prog w) A (call (.builtin "len") [v]) Q E s := by
  obtain ⟨l, vs, rfl, m, r⟩ := hv
  have z := r.len
  have e : vs.toArray.size = xs.length := by simp [z]
  refine call_len_list (hb _ m).1 (by rw [e]; omega) ?_
  rw [e]
  exact h _ _

theorem sorted_ {v : Value} {xs : List Int} {Q : Value → Shared → Prop} (hb : Has s.heap B) (hv : kInt.list.rel B v xs) (hsz : xs.length < 64)
    (h : ∀ v' B' s' ys, Stp A B s B' s' → kInt.list.rel B' v' ys → ys.Perm xs → ys.Pairwise (· ≤ ·) → Q v' s') : wpAny (model prog w) A (call (.builtin "sorted") [v]) Q E s := by
  obtain ⟨l, vs, rfl, m, r⟩ := hv
  refine sorted_ints (hb _ m).1 (ints_of r) (by rw [r.len]; exact hsz) fun out ns' a1 a2 a3 => ?_
  obtain ⟨e, he⟩ := sortedAll_at s.heap vs out
  refine h _ ((s.heap.objs.size + 1, out.toList) :: B) _ ns' (.alloc hb (fun b o q => sortedAll_old q) (Heap.get?_none_of_le (Nat.le_succ _)) (.mk (n := e) (sl := #[]) (by rw [he]))) ⟨_, _, rfl, .head _, ints_to a1⟩ a2 a3

theorem range_ {n : Nat} {t : Tok} {Q : Value → Shared → Prop} (hh : A.handled = none) (hb : Has s.heap B) (hn : n < 2 ^ 31)
    (h : ∀ v' s', Stp A B s B s' → Src prog w A B v' n (fun i v => ∃ t, v = .int (i : Int) t) s' → Q v' s') : wpAny (model prog w) A (call (.type "range") [.int (n : Int) t]) Q E s := by
  refine call_range_1 ?_
  exact h _ _ (.keeps hb fun b o e => Heap.get?_push_of_some _ e) (.range hh (Heap.get?_push_size _ rfl) hn)
end

/-! calls -/
section
variable {prog : Program} {w : World} {A : Around} {B : Led} {s : Shared} {E : Value → Shared → Prop} {env : Env} {Q : Value → Shared → Prop} {x : Str} {np pos : Pos}
theorem callB1 {id : String} {a : PySem.Expr} (hn : ∀ Q' : Value → Shared → Prop, Q' (.builtin id) s → wpAny (model prog w) A (eval (.Name x np) env) Q' E s)
    (h : wpAny (model prog w) A (eval a env) (fun v s₁ => wpAny (model prog w) A (call (.builtin id) [v]) Q E s₁) E s) (he : starEach [a] env = [(false, eval a env)] := by rfl) :
    wpAny (model prog w) A (eval (.Call (.Name x np) [a] [] pos) env) Q E s := by
  refine wpAny_Call_ofName (hn _ ?_)
  rw [he]
  exact callWith_builtin rfl (evalArgs_plain (spliced_cons (wpAny_mono h (fun v s₁ h₁ => spliced_nil h₁) fun _ _ q => q)))
theorem callT1 {T : String} {a : PySem.Expr} (hn : ∀ Q' : Value → Shared → Prop, Q' (.type T) s → wpAny (model prog w) A (eval (.Name x np) env) Q' E s)
    (h : wpAny (model prog w) A (eval a env) (fun v s₁ => wpAny (model prog w) A (call (.type T) [v]) Q E s₁) E s) (he : starEach [a] env = [(false, eval a env)] := by rfl) :
    wpAny (model prog w) A (eval (.Call (.Name x np) [a] [] pos) env) Q E s := by
  refine wpAny_Call_ofName (hn _ ?_)
  rw [he]
  exact callWith_excType rfl (evalArgs_plain (spliced_cons (wpAny_mono h (fun v s₁ h₁ => spliced_nil h₁) fun _ _ q => q)))

/-- a reference that may be called as a def is -/
def Callee (prog : Program) (w : World) (h00 : Heap) (f : Value) : Prop :=
  ∀ h, h00.StaysIn h → ∃ k, (k = Keeper.frame ∨ k = Keeper.machine ∨ k = Keeper.boundFrame) ∧ Looks (model prog w) h (keeperOf f) k
theorem Callee.def {h00 : Heap} {f : Addr} {fd : FuncData} {body : List Stmt} (D : IsDef h00 f fd body) : Callee prog w h00 (.ref f) := fun h k => by
  obtain ⟨o, ho, hd⟩ := D.obj
  refine ⟨.frame, .inl rfl, (Looks.ld (part := none) (k _ _ ho)).andThen ?_⟩
  rw [hd]
  exact .now
theorem Callee.of_K {h00 : Heap} {K : Frag} {f : Value} (X : K.In h00) (hk : keepIn K f = true) : Callee prog w h00 f := fun h k => keeps_K hk h (X.keeps k)

theorem callF1 {h00 : Heap} {f : Value} {a : PySem.Expr} (C : Callee prog w h00 f) (hn : ∀ Q' : Value → Shared → Prop, Q' f s → wpAny (model prog w) A (eval (.Name x np) env) Q' E s)
    (h : wpAny (model prog w) A (eval a env) (fun v s₁ => h00.StaysIn s₁.heap ∧ wpAny (model prog w) A (call f [v]) Q E s₁) E s) (he : starEach [a] env = [(false, eval a env)] := by rfl) :
    wpAny (model prog w) A (eval (.Call (.Name x np) [a] [] pos) env) Q E s := by
  refine wpAny_Call_ofName (hn _ ?_)
  rw [he]
  exact callWith_of (P := h00.StaysIn) rfl C (evalArgs_plain (spliced_cons (wpAny_mono h (fun v s₁ h₁ => spliced_nil h₁) fun _ _ q => q)))
theorem callF2 {h00 : Heap} {f : Value} {a b : PySem.Expr} (C : Callee prog w h00 f) (hn : ∀ Q' : Value → Shared → Prop, Q' f s → wpAny (model prog w) A (eval (.Name x np) env) Q' E s)
    (h : wpAny (model prog w) A (eval a env) (fun v s₁ => wpAny (model prog w) A (eval b env) (fun u s₂ => h00.StaysIn s₂.heap ∧ wpAny (model prog w) A (call f [v, u]) Q E s₂) E s₁) E s)
    (he : starEach [a, b] env = [(false, eval a env), (false, eval b env)] := by rfl) :
    wpAny (model prog w) A (eval (.Call (.Name x np) [a, b] [] pos) env) Q E s := by
  refine wpAny_Call_ofName (hn _ ?_)
  rw [he]
  exact callWith_of (P := h00.StaysIn) rfl C (evalArgs_plain (spliced_cons (wpAny_mono h (fun v s₁ h₁ => spliced_cons (wpAny_mono h₁ (fun u s₂ h₂ => spliced_nil h₂) fun _ _ q => q)) fun _ _ q => q)))
theorem callF3 {h00 : Heap} {f : Value} {a b c : PySem.Expr} (C : Callee prog w h00 f) (hn : ∀ Q' : Value → Shared → Prop, Q' f s → wpAny (model prog w) A (eval (.Name x np) env) Q' E s)
    (h : wpAny (model prog w) A (eval a env) (fun v s₁ => wpAny (model prog w) A (eval b env) (fun u s₂ => wpAny (model prog w) A (eval c env) (fun y s₃ => h00.StaysIn s₃.heap ∧ wpAny (model prog w) A (call f [v, u, y]) Q E s₃) E s₂) E s₁) E s)
    (he : starEach [a, b, c] env = [(false, eval a env), (false, eval b env), (false, eval c env)] := by rfl) :
    wpAny (model prog w) A (eval (.Call (.Name x np) [a, b, c] [] pos) env) Q E s := by
  refine wpAny_Call_ofName (hn _ ?_)
  rw [he]
  exact callWith_of (P := h00.StaysIn) rfl C (evalArgs_plain (spliced_cons (wpAny_mono h (fun v s₁ h₁ => spliced_cons (wpAny_mono h₁ (fun u s₂ h₂ => spliced_cons (wpAny_mono h₂ (fun y s₃ h₃ => spliced_nil h₃) fun _ _ q => q)) fun _ _ q => q)) fun _ _ q => q)))
end
end Mine

end
section
open PySem PySem.W PyProof.Rows PySem.Calls
set_option Elab.async false
set_option autoImplicit false
namespace Mine
section
variable {prog : Program} {w : World} {h00 : Heap} {mg mb : Str → Option Value} {A₀ : Around} {B₀ : Led} {s₀ : Shared} {env : Env} {m cm : Str → Option Value} {Z : List (Addr × Obj)} {B : Led} {s : Shared}

/-- a turn that may change the pinned objects -/
def TurnEndZ (h00 : Heap) (mg mb : Str → Option Value) (A₀ : Around) (B₀ : Led) (s₀ : Shared) (env : Env) (z : Addr × Obj) (Z : List (Addr × Obj)) (B : Led) (J : (Str → Option Value) → (Str → Option Value) → Led → List (Addr × Obj) → Prop) (Q : Flow → Shared → Prop) (f : Flow) (s₂ : Shared) : Prop :=
  match f with
  | .brk => Q .next s₂
  | .ret v => Q (.ret v) s₂
  | _ => ∃ m₂ cm₂ B₂ Z₂, (∀ p ∈ B, p ∈ B₂) ∧ Z₂.map (·.1) = Z.map (·.1) ∧ J m₂ cm₂ B₂ Z₂ ∧ Fm h00 mg mb A₀ B₀ s₀ env m₂ cm₂ (z :: Z₂) B₂ s₂

theorem for_itZ {x : Str} {px : Pos} {body : List Stmt} {oI : Obj} {n : Nat} {P : Nat → Value → Prop} {St : Nat → Obj → Prop} {Q : Flow → Shared → Prop} {I : Addr}
    (T : Iter prog w (A₀.deeper env) I B n P St) (hst : St 0 oI) (F : Fm h00 mg mb A₀ B₀ s₀ env m cm ((I, oI) :: Z) B s) (hZ : I ∉ Z.map (·.1))
    (J : Nat → (Str → Option Value) → (Str → Option Value) → Led → List (Addr × Obj) → Prop) (h0 : J 0 m cm B Z)
    (turn : ∀ i v m₁ cm₁ z Z₁ B₁ s₁, i < n → P i v → (∀ p ∈ B, p ∈ B₁) → Z₁.map (·.1) = Z.map (·.1) → z.1 ∉ Z₁.map (·.1) → J i m₁ cm₁ B₁ Z₁ → Fm h00 mg mb A₀ B₀ s₀ env (upd m₁ x v) cm₁ (z :: Z₁) B₁ s₁ →
      wpAny (model prog w) (A₀.deeper env) (execs body env) (TurnEndZ h00 mg mb A₀ B₀ s₀ env z Z₁ B₁ (J (i + 1)) Q) (fun _ _ => False) s₁)
    (done : ∀ m₁ cm₁ B₁ Z₁ s₁, (∀ p ∈ B, p ∈ B₁) → Z₁.map (·.1) = Z.map (·.1) → J n m₁ cm₁ B₁ Z₁ → Fm h00 mg mb A₀ B₀ s₀ env m₁ cm₁ Z₁ B₁ s₁ → Q .next s₁)
    (hk : env.scope.kind = .function := by rfl) (hx : env.kindOf x = some .local := by rfl) :
    codeAny (model prog w) (A₀.deeper env) (.forLoop (.Name x px) (.ref I) body [] env) (fun r s' => match r with | .ok f => Q f s' | .error e => cameBackBy (model prog w) (A₀.deeper env) env (fun _ _ => False) e s') s := by
  refine codeAny_forLoop (fun k s' => ∃ i o m₁ cm₁ B₁ Z₁, i ≤ n ∧ k = n + 1 - i ∧ St i o ∧ (∀ p ∈ B, p ∈ B₁) ∧ Z₁.map (·.1) = Z.map (·.1) ∧ J i m₁ cm₁ B₁ Z₁ ∧ Fm h00 mg mb A₀ B₀ s₀ env m₁ cm₁ ((I, o) :: Z₁) B₁ s') ?_ (n + 1) ⟨0, oI, m, cm, B, Z, Nat.zero_le _, rfl, hst, fun _ h => h, rfl, h0, F⟩
  rintro k s' ⟨i, o, m₁, cm₁, B₁, Z₁, hi, rfl, hst', hsub, hZ₁, hJ, F'⟩
  have hasB : Has s'.heap B := fun p hp => F'.rd.has p (hsub p hp)
  have off : ∀ p ∈ Z₁, p.1 ≠ I := fun p hp e => hZ (hZ₁ ▸ List.mem_map.mpr ⟨p, hp, e⟩)
  by_cases hlt : i < n
  · refine T.item i s' o _ _ hlt hasB (F'.pin _ (.head _)).1 hst' fun v h' tk o' hP ho' hst'' hs' => ?_
    have F₁ := F'.repin (tk := tk) hs' ho' off
    refine wpAny_assign_Name (F₁.st (fun s₂ F₂ => ?_) hk hx)
    refine wpAny_mono (turn i v m₁ cm₁ _ Z₁ B₁ s₂ hlt hP hsub hZ₁ (fun hm => hZ (hZ₁ ▸ hm)) hJ F₂) (fun f s₃ h₃ => ?_) fun _ _ q => q.elim
    cases f with
    | next => obtain ⟨m₂, cm₂, B₂, Z₂, a, z, b, c⟩ := h₃; exact ⟨n + 1 - (i + 1), by omega, i + 1, o', m₂, cm₂, B₂, Z₂, hlt, rfl, hst'', fun p hp => a p (hsub p hp), z.trans hZ₁, b, c⟩
    | cont => obtain ⟨m₂, cm₂, B₂, Z₂, a, z, b, c⟩ := h₃; exact ⟨n + 1 - (i + 1), by omega, i + 1, o', m₂, cm₂, B₂, Z₂, hlt, rfl, hst'', fun p hp => a p (hsub p hp), z.trans hZ₁, b, c⟩
    | brk => exact h₃
    | ret v => exact h₃
  · have e : i = n := by omega
    subst e
    refine T.done s' o _ _ hasB (F'.pin _ (.head _)).1 hst' fun h' tk hs' => wpAny_execs_nil ?_
    exact done m₁ cm₁ B₁ Z₁ _ hsub hZ₁ hJ (F'.unpin (tk := tk) hs' off)

theorem ForZ_ {x : Str} {px pos : Pos} {iter : PySem.Expr} {body : List Stmt} {n : Nat} {P : Nat → Value → Prop} {Q : Flow → Shared → Prop} {E : Value → Shared → Prop}
    (_F : Fm h00 mg mb A₀ B₀ s₀ env m cm Z B s) (hiter : wpAny (model prog w) (A₀.deeper env) (eval iter env) (fun xv s₁ => ∃ B₁, Fm h00 mg mb A₀ B₀ s₀ env m cm Z B₁ s₁ ∧ Src prog w (A₀.deeper env) B₁ xv n P s₁ ∧ ∃ (J : Nat → (Str → Option Value) → (Str → Option Value) → Led → List (Addr × Obj) → Prop), J 0 m cm B₁ Z ∧
      (∀ i v m₁ cm₁ z Z₁ B₂ s₂, i < n → P i v → (∀ p ∈ B₁, p ∈ B₂) → Z₁.map (·.1) = Z.map (·.1) → z.1 ∉ Z₁.map (·.1) → J i m₁ cm₁ B₂ Z₁ → Fm h00 mg mb A₀ B₀ s₀ env (upd m₁ x v) cm₁ (z :: Z₁) B₂ s₂ →
        wpAny (model prog w) (A₀.deeper env) (execs body env) (TurnEndZ h00 mg mb A₀ B₀ s₀ env z Z₁ B₂ (J (i + 1)) Q) (fun _ _ => False) s₂) ∧
      (∀ m₁ cm₁ B₂ Z₁ s₂, (∀ p ∈ B₁, p ∈ B₂) → Z₁.map (·.1) = Z.map (·.1) → J n m₁ cm₁ B₂ Z₁ → Fm h00 mg mb A₀ B₀ s₀ env m₁ cm₁ Z₁ B₂ s₂ → Q .next s₂)) (fun _ _ => False) s)
    (hk : env.scope.kind = .function := by rfl) (hx : env.kindOf x = some .local := by rfl) (hs : ∀ x, foldedSetIterable iter env x = pure x := by intro _; rfl) :
    wpAny (model prog w) (A₀.deeper env) (exec (.For (.Name x px) iter body [] pos) env) Q E s := by
  refine wpAny_noRaise (wpAny_For (wpAny_mono hiter (fun xv s₁ h₁ => ?_) fun _ _ q => q.elim) hs)
  obtain ⟨B₁, F₁, ⟨oI, St, hf, T, hst, hit⟩, J, h0, turn, done⟩ := h₁
  refine hit _ _ ?_
  refine for_itZ T hst (F₁.push hf) (fun hm => ?_) J h0 turn done hk hx
  obtain ⟨p, hp, e⟩ := List.mem_map.mp hm
  have := Heap.lt_size (F₁.pin p hp).1
  rw [e] at this
  exact Nat.lt_irrefl _ this

/-- a pinned list is handed over to the ledger -/
theorem Fm.release {a : Addr} {vs : List Value} {n : Nat} (F : Fm h00 mg mb A₀ B₀ s₀ env m cm ((a, { cls := .type "list", data := .seq vs.toArray n }) :: Z) B s) (hZ : a ∉ Z.map (·.1)) : Fm h00 mg mb A₀ B₀ s₀ env m cm Z ((a, vs) :: B) s := by
  obtain ⟨h1, h2, h3, h4⟩ := F.pin _ (.head _)
  have hb : Has s.heap ((a, vs) :: B) := fun p hp => by
    rcases List.mem_cons.mp hp with rfl | hp
    · exact .mk h1
    · exact F.rd.has p hp
  refine ⟨⟨F.rd.e0, F.rd.gl, F.rd.ns, F.rd.cell, hb⟩, F.gl0, ⟨F.stp.same, F.stp.kp, hb, fun p hp => .tail _ (F.stp.sub p hp), fun p hp => ?_⟩, F.apart, F.newL, F.newC, F.frame, fun p hp => F.pin p (.tail _ hp), fun p hp q hq e => ?_⟩
  · rcases List.mem_cons.mp hp with rfl | hp
    · exact .inr h4
    · exact F.stp.new p hp
  · rcases List.mem_cons.mp hq with rfl | hq
    · exact hZ (List.mem_map.mpr ⟨p, hp, e.symm⟩)
    · exact F.offB p (.tail _ hp) q hq e

/-- name.append(e) -/
theorem Fm.append {x : Str} {np apos cpos pos : Pos} {e : PySem.Expr} {a : Addr} {vs : List Value} {n : Nat} {Q : Flow → Shared → Prop} {E : Value → Shared → Prop}
    (F : Fm h00 mg mb A₀ B₀ s₀ env m cm ((a, { cls := .type "list", data := .seq vs.toArray n }) :: Z) B s) (hx : m x = some (.ref a)) (hZ : a ∉ Z.map (·.1)) (hsz : vs.length ≤ sizeLine)
    (he : wpAny (model prog w) (A₀.deeper env) (eval e env) (fun v s₁ => ∃ B₁, Fm h00 mg mb A₀ B₀ s₀ env m cm ((a, { cls := .type "list", data := .seq vs.toArray n }) :: Z) B₁ s₁ ∧
      ∀ s₂, Fm h00 mg mb A₀ B₀ s₀ env m cm ((a, { cls := .type "list", data := .seq (vs ++ [v]).toArray (n + 1) }) :: Z) B₁ s₂ → Q .next s₂) (fun _ _ => False) s)
    (hk : env.scope.kind = .function := by rfl) (hl : env.kindOf x = some .local := by rfl) (hse : starEach [e] env = [(false, eval e env)] := by rfl) (hd : (x == ("__debug__" : Str)) = false := by decide)
    (hi : interactive env = false := by rfl) {pl : Sem Bool} (hm : eval (.Call (.Attribute (.Name x np) "append" apos) [e] [] cpos) env = (do let ov ← eval (.Name x np) env; standAt apos.atName; let (f, first) ← holding [ov] (getMethod ov "append" pl); callWith cpos f first (backTo cpos (starEach [e] env)) []) := by rfl) :
    wpAny (model prog w) (A₀.deeper env) (exec (.Expr (.Call (.Attribute (.Name x np) "append" apos) [e] [] cpos) pos) env) Q E s := by
  refine wpAny_noRaise (wpAny_Expr_any ?_ hi rfl)
  refine MethodCall_ (F.rd.name_l hx ?_ hk hl hd) hm
  refine Calls.getMethod_list_append (F.pin _ (.head _)).1 rfl rfl ?_
  show wpAny _ _ (callWith cpos (.builtin "list.append") [.ref a] (backTo cpos (starEach [e] env)) []) _ _ _
  rw [hse]
  refine callWith_builtin rfl (evalArgs_plain (spliced_cons (wpAny_mono he (fun v s₁ h₁ => spliced_nil ?_) fun _ _ q => q.elim)))
  obtain ⟨B₁, F₁, k⟩ := h₁
  show wpAny _ _ (call (.builtin "list.append") [.ref a, v]) _ _ _
  refine append_at (F₁.pin _ (.head _)).1 (fun h' hs ho => ?_) (by simpa using hsz)
  refine k _ (F₁.repin (tk := s₁.toks) hs.extBut (by simpa using ho) fun p hp e => hZ (List.mem_map.mpr ⟨p, hp, e⟩))
end
end Mine

end
section
open PySem PySem.W PyProof.Rows PySem.Calls
set_option Elab.async false
set_option autoImplicit false
set_option linter.unusedVariables false
set_option maxRecDepth 100000
namespace Mine

/-! the parts of the text -/
def topOf (i : Nat) : Stmt := (PySem.Challenge.pw_ik0013_01.main.body)[i]?.getD (.Pass ⟨0, 0, 0, 0⟩)
def dBody : Stmt → List Stmt
  | .FunctionDef _ _ b _ _ _ _ _ _ _ => b
  | .ClassDef _ _ _ b .. => b
  | _ => []
def dName : Stmt → Str
  | .FunctionDef n _ _ _ _ _ _ _ _ _ => n
  | _ => Str.empty
def dArgs : Stmt → Arguments
  | .FunctionDef _ a _ _ _ _ _ _ _ _ => a
  | _ => { posonlyargs := [], args := [], vararg := none, kwonlyargs := [], kw_defaults := [], kwarg := none, defaults := [] }
def dScope : Stmt → Scope
  | .FunctionDef _ _ _ _ _ _ s _ _ _ => s
  | _ => { kind := .function, names := [], isGenerator := false, isCoroutine := false, more := [] }
def inOf (st : Stmt) (i : Nat) : Stmt := (dBody st)[i]?.getD (.Pass ⟨0, 0, 0, 0⟩)
abbrev fdOf (st : Stmt) (qual : Str) (dV kwd : Value) (ann : Option Addr) (pm cd doc : Value) : FuncData :=
  defFd (dName st) qual (dArgs st) (dBody st) (dScope st) mainGlobals dV kwd ann pm cd doc

structure Room (A : Around) (d u : Nat) : Prop where
  hh : A.handled = none
  dp : A.depth + d < recursionLimit
  un : A.units + u < cLine
theorem Room.deeper {A : Around} {d u : Nat} (R : Room A (d + 1) (u + 3)) (env : Env) : Room (A.deeper env) d u := ⟨R.hh, by have := R.dp; simp only [Around.deeper]; omega, by have := R.un; simp only [Around.deeper]; omega⟩
theorem Room.mono {A : Around} {d u d' u' : Nat} (R : Room A d u) (h : d' ≤ d) (h' : u' ≤ u) : Room A d' u' := ⟨R.hh, by have := R.dp; omega, by have := R.un; omega⟩

theorem upd_same {m : Str → Option Value} {x : Str} {v : Value} : upd m x v x = some v := if_pos rfl
theorem upd_get {m : Str → Option Value} {x y : Str} {v : Value} {u : Option Value} (h : m y = u) (hne : y ≠ x := by decide) : upd m x v y = u := (if_neg hne).trans h

/-- an expression that gives an int and changes nothing -/
def IE (prog : Program) (w : World) (A : Around) (env : Env) (h : Heap) (e : PySem.Expr) (x : Int) : Prop :=
  ∀ (s : Shared) (Q E : Value → Shared → Prop), s.heap = h → (∀ t tk, Q (.int x t) { s with toks := tk }) → wpAny (model prog w) A (eval e env) Q E s

namespace IE
variable {prog : Program} {w : World} {A : Around} {env : Env} {h : Heap} {h00 : Heap} {mg mb : Str → Option Value} {m cm : Str → Option Value} {B : Led} {x y : Int} {l r : PySem.Expr} {n : Str} {pos : Pos}
theorem cst {k : Nat} : IE prog w A env h (.Constant (.int x) k pos) x := fun s Q E _ hq => wpAny_Constant_int (hq _ _)
theorem loc (R : Rd h00 mg mb A env m cm B h) (hv : ∃ t, m n = some (.int x t)) (hk : env.scope.kind = .function := by rfl) (hl : env.kindOf n = some .local := by rfl) (hd : (n == ("__debug__" : Str)) = false := by decide) :
    IE prog w A env h (.Name n pos) x := fun s Q E e hq => by
  obtain ⟨t, hv⟩ := hv
  exact Rd.name_l (e ▸ R) hv (hq t s.toks) hk hl hd
theorem cel (R : Rd h00 mg mb A env m cm B h) {c : Addr} (hc : env.cells.lookup n = some c) (hv : ∃ t, cm n = some (.int x t)) (hk : env.scope.kind = .function := by rfl) (hl : env.kindOf n = some .cell := by rfl) (hd : (n == ("__debug__" : Str)) = false := by decide) :
    IE prog w A env h (.Name n pos) x := fun s Q E e hq => by
  obtain ⟨t, hv⟩ := hv
  exact Rd.name_c (e ▸ R) hc hv (hq t s.toks) hk hl hd
theorem add (a : IE prog w A env h l x) (b : IE prog w A env h r y) : IE prog w A env h (.BinOp l .Add r pos) (x + y) := fun s Q E e hq =>
  wpAny_BinOp (a s _ _ e fun _ _ => b _ _ _ e fun _ _ => add_int (hq _ _))
theorem sub (a : IE prog w A env h l x) (b : IE prog w A env h r y) : IE prog w A env h (.BinOp l .Sub r pos) (x - y) := fun s Q E e hq =>
  wpAny_BinOp (a s _ _ e fun _ _ => b _ _ _ e fun _ _ => sub_int (hq _ _))
theorem mul (a : IE prog w A env h l x) (b : IE prog w A env h r y) (ho : IntMulOk x y := by mul_fits) : IE prog w A env h (.BinOp l .Mult r pos) (x * y) := fun s Q E e hq =>
  wpAny_BinOp (a s _ _ e fun _ _ => b _ _ _ e fun _ _ => PyProof.Rows.mul_int (hq _ _) ho)
theorem mod (a : IE prog w A env h l x) (b : IE prog w A env h r y) (hy : y ≠ 0) : IE prog w A env h (.BinOp l .Mod r pos) (x.fmod y) := fun s Q E e hq =>
  wpAny_BinOp (a s _ _ e fun _ _ => b _ _ _ e fun _ _ => mod_int' hy (hq _ _))
theorem div (a : IE prog w A env h l x) (b : IE prog w A env h r y) (hy : y ≠ 0) (hs : y.natAbs < 1073741824) : IE prog w A env h (.BinOp l .FloorDiv r pos) (x.fdiv y) := fun s Q E e hq =>
  wpAny_BinOp (a s _ _ e fun _ _ => b _ _ _ e fun _ _ => floordiv_int hy (hq _ _) (.inl (PyProof.noPylong_small hs)))
theorem pow (a : IE prog w A env h l x) (b : IE prog w A env h r y) (hn : 0 ≤ y) (hn2 : y ≤ 1000000) (ha : x.natAbs < 2 ^ 64) : IE prog w A env h (.BinOp l .Pow r pos) (x ^ y.toNat) := fun s Q E e hq =>
  wpAny_BinOp (a s _ _ e fun _ _ => b _ _ _ e fun _ _ => pow_int_small hn hn2 ha (hq _ _))
theorem to {x' : Int} (a : IE prog w A env h l x) (e : x = x') : IE prog w A env h l x' := e ▸ a
theorem use {s : Shared} {Q E : Value → Shared → Prop} (a : IE prog w A env s.heap l x) (k : ∀ t tk, Q (.int x t) { s with toks := tk }) : wpAny (model prog w) A (eval l env) Q E s := a s Q E rfl k
theorem gt (a : IE prog w A env h l x) (b : IE prog w A env h r y) {s : Shared} (e : s.heap = h) {Q : Bool → Shared → Prop} {E : Value → Shared → Prop} {whole : Sem Value} (hq : ∀ tk, Q (decide (x > y)) { s with toks := tk }) (hm : behindInMarks .Gt r = false := by with_unfolding_all rfl) :
    wpAny (model prog w) A (isTrue (.Compare l [.Gt] [r] pos) env whole) Q E s :=
  wpAny_isTrue_Compare1 (a s _ _ e fun _ _ => b _ _ _ e fun _ _ => gt_int (wpAny_truthy_bool (hq _))) hm
end IE

section
variable {prog : Program} {w : World} {h00 : Heap} {mg mb : Str → Option Value} {A₀ : Around} {B₀ : Led} {s₀ : Shared} {env : Env} {m cm : Str → Option Value} {Z : List (Addr × Obj)} {B : Led} {s : Shared}
/-- x = [] : a list of the frame's own -/
theorem Fm.newlist {x : Str} {px pos lp : Pos} {Q : Flow → Shared → Prop} {E : Value → Shared → Prop} (F : Fm h00 mg mb A₀ B₀ s₀ env m cm Z B s)
    (h : ∀ a s', a ∉ Z.map (·.1) → Fm h00 mg mb A₀ B₀ s₀ env (upd m x (.ref a)) cm ((a, { cls := .type "list", data := .seq ([] : List Value).toArray 0 }) :: Z) B s' → Q .next s')
    (hk : env.scope.kind = .function := by rfl) (hl : env.kindOf x = some .local := by rfl) :
    wpAny (model prog w) (A₀.deeper env) (exec (.Assign [.Name x px] (.List [] lp) pos) env) Q E s := by
  refine wpAny_Assign_Name (wpAny_List (wpAny_items_nil ⟨by simp, ?_⟩))
  refine (F.push (o := { cls := .type "list", data := .seq ([] : List Value).toArray 0 }) rfl).st (fun s' F' => h _ s' (fun hm => ?_) F') hk hl
  obtain ⟨p, hp, e⟩ := List.mem_map.mp hm
  have := Heap.lt_size (F.pin p hp).1
  rw [e] at this
  exact Nat.lt_irrefl _ this
end

/-- the letter's part of a clause -/
def figL (c : Nat) (l : Nat) : List Int := if c / 3 ^ l % 3 = 0 then [] else [2 * (l : Int) + (c / 3 ^ l % 3 : Nat) - 1]
def clauseTo (c : Nat) : Nat → List Int
  | 0 => []
  | i + 1 => clauseTo c i ++ figL c i
def clauseL (c : Nat) : List Int := clauseTo c 4
theorem clauseTo_len (c i : Nat) : (clauseTo c i).length ≤ i := by
  induction i with
  | zero => simp [clauseTo]
  | succ i ih =>
    simp only [clauseTo, List.length_append]
    have : (figL c i).length ≤ 1 := by unfold figL; split <;> simp
    omega
theorem fig_val (c l : Nat) : ((c : Int).fdiv ((3 : Int) ^ ((l : Int)).toNat)).fmod 3 = ((c / 3 ^ l % 3 : Nat) : Int) := by
  rw [Int.toNat_natCast, show ((3 : Int) ^ l) = ((3 ^ l : Nat) : Int) by push_cast; rfl, ← Int.ofNat_fdiv, show (3 : Int) = ((3 : Nat) : Int) by rfl, Int.natCast_emod, Int.fmod_eq_emod_of_nonneg _ (by omega)]

theorem pow3_ne (n : Nat) : (3 : Int) ^ n ≠ 0 := by
  have : 0 < (3 : Int) ^ n := Int.pow_pos (by decide)
  omega
theorem mem2 {α : Type} {a b p : α} (h : p ∈ [a, b]) : p ∈ [b, a] := by
  simp only [List.mem_cons, List.not_mem_nil, or_false] at h ⊢
  exact h.symm
theorem pow3_lt {i : Nat} (hi : i < 4) : ((3 : Int) ^ (i : Int).toNat).natAbs < 1073741824 := by
  rw [Int.toNat_natCast]
  have : i = 0 ∨ i = 1 ∨ i = 2 ∨ i = 3 := by omega
  rcases this with rfl | rfl | rfl | rfl <;> decide
/-- what is known of the text's own names -/
structure Nm (mg mb : Str → Option Value) : Prop where
  range : mg "range" = none ∧ mb "range" = some (.type "range")

section
variable {prog : Program} {w : World} {h00 : Heap} {mg mb : Str → Option Value} {A : Around} {B : Led} {s : Shared}
abbrev fdT (i : Nat) (ann : Option Addr) (pm cd doc : Value) : FuncData := fdOf (topOf i) (dName (topOf i)) .none .none ann pm cd doc

theorem clause_meets {f : Addr} {ann : Option Addr} {pm cd doc : Value} {v : Value} {c : Nat} (D : IsDef h00 f (fdT 18 ann pm cd doc) (dBody (topOf 18))) (N : Nm mg mb) (e0 : Env0 h00 mg mb) (G : Gl h00 A s.heap) (hb : Has s.heap B) (R : Room A 1 4)
    (hv : kInt.rel B v (c : Int)) : Con prog w A (call (.ref f) [v]) B s (fun B' r => kInt.list.rel B' r (clauseL c)) := by
  obtain ⟨t, rfl⟩ := hv
  have R' := R.deeper (callEnvC (fdT 18 ann pm cd doc) 0 f)
  refine call_def (binds := [("code", .int (c : Int) t)]) e0 G hb D (by have := R.dp; omega) (by with_unfolding_all rfl) ?_ fun s₁ L F => ?_
  · intro x hx
    rcases List.mem_singleton.mp hx with rfl
    exact .inl (by rfl)
  have hm : (bindL (callEnvC (fdT 18 ann pm cd doc) L f).kindOf [("code", .int (c : Int) t)] fun _ => none) "code" = some (.int (c : Int) t) := by rfl
  generalize (bindL (callEnvC (fdT 18 ann pm cd doc) L f).kindOf [("code", .int (c : Int) t)] fun _ => none) = m at F hm
  refine wpAny_execs_cons ?_
  refine F.newlist fun a s₂ _ F₂ => ?_
  dsimp only
  refine wpAny_execs_cons ?_
  refine ForZ_ F₂ (n := 4) (P := fun i v => ∃ t, v = .int (i : Int) t) ?_
  refine callT1 (fun Q' hq => F₂.rd.name_b N.range.1 N.range.2 hq) ?_
  refine wpAny_Constant_int ?_
  refine range_ (n := 4) R'.hh (F₂.lt _).rd.has (by decide) fun xv s₃ x hS => ⟨B, (F₂.lt _).go x, hS, ?_⟩
  refine ⟨fun i m₁ _ B₁ Z₁ => m₁ "code" = some (.int (c : Int) t) ∧ m₁ "clause" = some (.ref a) ∧ ∃ vs n, Z₁ = [(a, { cls := .type "list", data := .seq (vs : List Value).toArray n })] ∧ All2 (kInt.rel B₁) vs (clauseTo c i), ⟨?_, ?_, [], 0, rfl, .nil⟩, ?_, ?_⟩
  · exact upd_get hm
  · exact upd_same
  · rintro i v m₁ cm₁ z Z₁ B₁ s₄ hi ⟨u, rfl⟩ hsub hZ hz ⟨h1, h2, vs, n, rfl, hvs⟩ F₄
    refine wpAny_execs_cons (wpAny_Assign_Name ?_)
    refine IE.use (.to (.mod (.div (.loc F₄.rd ⟨t, upd_get h1⟩) (.pow .cst (.loc F₄.rd ⟨u, upd_same⟩) (by omega) (by omega) (by decide)) (by exact pow3_ne _) (by exact pow3_lt hi)) .cst (by decide)) (fig_val c i)) fun t₁ tk => ?_
    refine (F₄.lt tk).st fun s₅ F₅ => ?_
    dsimp only
    refine wpAny_execs_cons (wpAny_If ?_)
    refine IE.gt (.loc F₅.rd ⟨_, upd_same⟩) .cst rfl fun tk => ?_
    have e : (decide (((c / 3 ^ i % 3 : Nat) : Int) > 0)) = !decide (c / 3 ^ i % 3 = 0) := by
      generalize c / 3 ^ i % 3 = k
      rw [Bool.eq_iff_iff, decide_eq_true_eq, Bool.not_eq_true', decide_eq_false_iff_not]
      omega
    rw [e]
    by_cases h0 : c / 3 ^ i % 3 = 0
    · rw [decide_eq_true h0]
      refine wpAny_execs_nil (wpAny_execs_nil ?_)
      refine ⟨_, _, B₁, _, fun _ h => h, rfl, ⟨?_, ?_, vs, n, rfl, ?_⟩, F₅.lt tk⟩
      · exact upd_get (upd_get h1)
      · exact upd_get (upd_get h2)
      · simpa [clauseTo, figL, h0] using hvs
    · rw [decide_eq_false h0]
      refine wpAny_execs_cons ?_
      have F₆ := (F₅.lt tk).sub (Z' := [(a, { cls := .type "list", data := .seq vs.toArray n }), z]) (by simp)
      refine Fm.append F₆ (upd_get (upd_get h2)) ?_ ?_ ?_
      · intro hm
        simp only [List.map_cons, List.map_nil, List.mem_singleton] at hm hz
        exact hz hm.symm
      · rw [hvs.len]; have := clauseTo_len c i; simp only [sizeLine]; omega
      · refine IE.use (.sub (.add (.mul .cst (.loc F₆.rd ⟨u, upd_get upd_same⟩)) (.loc F₆.rd ⟨t₁, upd_same⟩)) .cst) fun t₂ tk₂ => ?_
        refine ⟨B₁, F₆.lt tk₂, fun s₇ F₇ => ?_⟩
        dsimp only
        refine wpAny_execs_nil (wpAny_execs_nil ?_)
        refine ⟨_, _, B₁, _, fun _ h => h, ?_, ⟨?_, ?_, vs ++ [_], n + 1, rfl, ?_⟩, F₇.sub fun p hp => mem2 hp⟩
        · rfl
        · exact upd_get (upd_get h1)
        · exact upd_get (upd_get h2)
        · show All2 _ _ (clauseTo c i ++ figL c i)
          rw [figL, if_neg h0]
          exact hvs.app (.one ⟨_, rfl⟩)
  · rintro m₁ cm₁ B₁ Z₁ s₄ hsub hZ ⟨h1, h2, vs, n, rfl, hvs⟩ F₄
    dsimp only
    refine wpAny_execs_cons (wpAny_Return_some (F₄.rd.name_l h2 ?_))
    have F₅ := F₄.release (by simp)
    exact ⟨_, F₅.stp, a, vs, rfl, .head _, hvs.mono fun _ _ h => kInt.mono (fun _ h => .tail _ h) h⟩
end
end Mine

end
section
open PySem PySem.W PyProof.Rows PySem.Calls
set_option Elab.async false
set_option autoImplicit false
set_option linter.unusedVariables false
set_option maxRecDepth 100000
namespace Mine

/-- an expression that, run now or later, gives what P says -/
def CE (prog : Program) (w : World) (A : Around) (env : Env) (e : PySem.Expr) (B : Led) (s : Shared) (P : Led → Value → Prop) : Prop :=
  ∀ B' s', Stp A B s B' s' → Con prog w A (eval e env) B' s' P
namespace CE
variable {prog : Program} {w : World} {A : Around} {env : Env} {h00 : Heap} {mg mb : Str → Option Value} {m cm : Str → Option Value} {B B' : Led} {s s' : Shared} {l r e : PySem.Expr} {n : Str} {pos : Pos} {P : Led → Value → Prop} {α : Type} {k : Kind α}
theorem now (c : CE prog w A env e B s P) (hb : Has s.heap B) : Con prog w A (eval e env) B s P := c _ _ (.refl hb)
theorem later (c : CE prog w A env e B s P) (x : Stp A B s B' s') : CE prog w A env e B' s' P := fun _ _ y => c _ _ (x.trans y)
theorem int {x : Int} (h : ∀ B' s', Stp A B s B' s' → IE prog w A env s'.heap e x) : CE prog w A env e B s (fun B v => kInt.rel B v x) := fun B' s' y =>
  IE.use (h _ _ y) fun t tk => ⟨B', .keeps y.has fun _ _ e => e, t, rfl⟩
theorem loc (R : Rd h00 mg mb A env m cm B s.heap) {v : Value} {x : α} (hv : m n = some v) (hx : k.rel B v x) (hk : env.scope.kind = .function := by rfl) (hl : env.kindOf n = some .local := by rfl) (hd : (n == ("__debug__" : Str)) = false := by decide) :
    CE prog w A env (.Name n pos) B s (fun B v => k.rel B v x) := fun B' s' y => (R.stp y).name_l hv ⟨B', .refl y.has, k.mono y.sub hx⟩ hk hl hd
theorem cel (R : Rd h00 mg mb A env m cm B s.heap) {v : Value} {x : α} {c : Addr} (hc : env.cells.lookup n = some c) (hv : cm n = some v) (hx : k.rel B v x) (hk : env.scope.kind = .function := by rfl) (hl : env.kindOf n = some .cell := by rfl) (hd : (n == ("__debug__" : Str)) = false := by decide) :
    CE prog w A env (.Name n pos) B s (fun B v => k.rel B v x) := fun B' s' y => (R.stp y).name_c hc hv ⟨B', .refl y.has, k.mono y.sub hx⟩ hk hl hd
theorem add {xs ys : List α} (a : CE prog w A env l B s (fun B v => k.list.rel B v xs)) (b : CE prog w A env r B s (fun B v => k.list.rel B v ys)) (hsz : xs.length + ys.length ≤ sizeLine) :
    CE prog w A env (.BinOp l .Add r pos) B s (fun B v => k.list.rel B v (xs ++ ys)) := fun B' s' y =>
  wpAny_BinOp ((a _ _ y).use fun v B₁ s₁ y₁ h₁ => (b _ _ (y.trans y₁)).use fun u B₂ s₂ y₂ h₂ =>
    Con.from (y₁.trans y₂) (con_add k y₂.has (k.list.mono y₂.sub h₁) h₂ hsz))
theorem nil : CE prog w A env (.List [] pos) B s (fun B v => k.list.rel B v []) := fun B' s' y =>
  wpAny_List (wpAny_items_nil ⟨by simp, _, stp_list y.has, _, [], rfl, .head _, .nil⟩)
theorem one {x : α} (a : CE prog w A env e B s (fun B v => k.rel B v x)) (he : starEach [e] env = [(false, eval e env)] := by rfl) : CE prog w A env (.List [e] pos) B s (fun B v => k.list.rel B v [x]) := fun B' s' y =>
  wpAny_List (wpAny_items_cons ((a _ _ y).use fun v B₁ s₁ y₁ h₁ => wpAny_items_nil ⟨by simp [sizeLine], _, y₁.trans (stp_list y₁.has), _, [v], rfl, .head _, .one (k.mono (fun _ h => .tail _ h) h₁)⟩) he)
theorem two {e₂ : PySem.Expr} {x y : α} (a : CE prog w A env e B s (fun B v => k.rel B v x)) (b : CE prog w A env e₂ B s (fun B v => k.rel B v y)) (he : starEach [e, e₂] env = (false, eval e env) :: starEach [e₂] env := by rfl) (he : starEach [e₂] env = [(false, eval e₂ env)] := by rfl) : CE prog w A env (.List [e, e₂] pos) B s (fun B v => k.list.rel B v [x, y]) := fun B' s' z =>
  wpAny_List (wpAny_items_cons ((a _ _ z).use fun v B₁ s₁ y₁ h₁ => wpAny_items_cons ((b _ _ (z.trans y₁)).use fun u B₂ s₂ y₂ h₂ => wpAny_items_nil ⟨by simp [sizeLine], _, (y₁.trans y₂).trans (stp_list y₂.has), _, [v, u], rfl, .head _, .cons (k.mono (fun _ h => .tail _ (y₂.sub _ h)) h₁) (.one (k.mono (fun _ h => .tail _ h) h₂))⟩) he) ‹_›)
theorem upto {ue : PySem.Expr} {p : Pos} {xs : List α} {i : Nat} (a : CE prog w A env e B s (fun B v => k.list.rel B v xs)) (b : CE prog w A env ue B s (fun B v => kInt.rel B v (i : Int))) (hsz : xs.length ≤ sizeLine) :
    CE prog w A env (.Subscript e (.Slice none (some ue) none p) pos) B s (fun B v => k.list.rel B v (xs.take i)) := fun B' s' y =>
  sub_upto k ((a _ _ y).use fun v B₁ s₁ y₁ h₁ => (b _ _ (y.trans y₁)).use fun u B₂ s₂ y₂ ⟨t, e⟩ => ⟨B₂, xs, i, t, e, y₂.has, k.list.mono y₂.sub h₁, hsz, fun v' B₃ s₃ y₃ h₃ => ⟨B₃, (y₁.trans y₂).trans y₃, h₃⟩⟩)
theorem from' {le : PySem.Expr} {p : Pos} {xs : List α} {i : Nat} (a : CE prog w A env e B s (fun B v => k.list.rel B v xs)) (b : CE prog w A env le B s (fun B v => kInt.rel B v (i : Int))) (hsz : xs.length ≤ sizeLine) :
    CE prog w A env (.Subscript e (.Slice (some le) none none p) pos) B s (fun B v => k.list.rel B v (xs.drop i)) := fun B' s' y =>
  sub_from k ((a _ _ y).use fun v B₁ s₁ y₁ h₁ => (b _ _ (y.trans y₁)).use fun u B₂ s₂ y₂ ⟨t, e⟩ => ⟨B₂, xs, i, t, e, y₂.has, k.list.mono y₂.sub h₁, hsz, fun v' B₃ s₃ y₃ h₃ => ⟨B₃, (y₁.trans y₂).trans y₃, h₃⟩⟩)
end CE

section
variable {prog : Program} {w : World} {h00 : Heap} {mg mb : Str → Option Value} {A₀ : Around} {B₀ : Led} {s₀ : Shared} {env : Env} {m cm : Str → Option Value} {Z : List (Addr × Obj)} {B : Led} {s : Shared}
/-- x = e -/
theorem Fm.set {x : Str} {px pos : Pos} {e : PySem.Expr} {P : Led → Value → Prop} {Q : Flow → Shared → Prop} {E : Value → Shared → Prop} (F : Fm h00 mg mb A₀ B₀ s₀ env m cm Z B s) (c : CE prog w (A₀.deeper env) env e B s P)
    (h : ∀ v B' s', (∀ p ∈ B, p ∈ B') → P B' v → Fm h00 mg mb A₀ B₀ s₀ env (upd m x v) cm Z B' s' → Q .next s') (hk : env.scope.kind = .function := by rfl) (hl : env.kindOf x = some .local := by rfl) (hs : swapsWith e (some (.Name x px)) pos.line env = pure false := by rfl) :
    wpAny (model prog w) (A₀.deeper env) (exec (.Assign [.Name x px] e pos) env) Q E s :=
  wpAny_Assign_Name ((c.now F.rd.has).use fun v B' s' y hp => (F.go y).st (fun s'' F' => h v B' s'' y.sub hp F') hk hl) hs
/-- return e -/
theorem Fm.ret {pos : Pos} {e : PySem.Expr} {P : Led → Value → Prop} {Q : Flow → Shared → Prop} {E : Value → Shared → Prop} (F : Fm h00 mg mb A₀ B₀ s₀ env m cm Z B s) (c : CE prog w (A₀.deeper env) env e B s P)
    (h : ∀ v B' s', (∀ p ∈ B, p ∈ B') → P B' v → Fm h00 mg mb A₀ B₀ s₀ env m cm Z B' s' → Q (.ret v) s') :
    wpAny (model prog w) (A₀.deeper env) (exec (.Return (some e) pos) env) Q E s :=
  wpAny_Return_some ((c.now F.rd.has).use fun v B' s' y hp => h v B' s' y.sub hp (F.go y))
end

/-! the order of the letters -/
def orderTo (x : Int) : Nat → List Int × Int
  | 0 => ([], x)
  | i + 1 =>
    let (o, r) := orderTo x i
    let p := (r.fmod ((i : Int) + 1)).toNat
    (o.take p ++ [(i : Int)] ++ o.drop p, r.fdiv ((i : Int) + 1))
theorem orderTo_len (x : Int) (i : Nat) : (orderTo x i).1.length = i := by
  induction i with
  | zero => rfl
  | succ i ih => simp only [orderTo, List.length_append, List.length_take, List.length_drop, List.length_singleton]; omega
def orderL (x : Int) : List Int := (orderTo x 4).1

section
variable {prog : Program} {w : World} {h00 : Heap} {mg mb : Str → Option Value} {A : Around} {B : Led} {s : Shared}
theorem order_meets {f : Addr} {ann : Option Addr} {pm cd doc : Value} {v : Value} {x : Int} (D : IsDef h00 f (fdT 19 ann pm cd doc) (dBody (topOf 19))) (N : Nm mg mb) (e0 : Env0 h00 mg mb) (G : Gl h00 A s.heap) (hb : Has s.heap B) (R : Room A 1 4)
    (hv : kInt.rel B v x) : Con prog w A (call (.ref f) [v]) B s (fun B' r => kInt.list.rel B' r (orderL x)) := by
  obtain ⟨t, rfl⟩ := hv
  have R' := R.deeper (callEnvC (fdT 19 ann pm cd doc) 0 f)
  refine call_def (binds := [("mixed", .int x t)]) e0 G hb D (by have := R.dp; omega) (by with_unfolding_all rfl) ?_ fun s₁ L F => ?_
  · intro x hx
    rcases List.mem_singleton.mp hx with rfl
    exact .inl (by rfl)
  have hm : (bindL (callEnvC (fdT 19 ann pm cd doc) L f).kindOf [("mixed", .int x t)] fun _ => none) "mixed" = some (.int x t) := by rfl
  generalize (bindL (callEnvC (fdT 19 ann pm cd doc) L f).kindOf [("mixed", .int x t)] fun _ => none) = m at F hm
  refine wpAny_execs_cons ?_
  refine F.set (CE.nil (k := kInt)) fun v₁ B₁ s₂ hs₁ hv₁ F₂ => ?_
  dsimp only
  refine wpAny_execs_cons ?_
  refine For_ F₂ (n := 4) (P := fun i v => ∃ t, v = .int (i : Int) t) ?_
  refine callT1 (fun Q' hq => F₂.rd.name_b N.range.1 N.range.2 hq) ?_
  refine wpAny_Constant_int ?_
  refine range_ (n := 4) R'.hh (F₂.lt _).rd.has (by decide) fun xv s₃ y hS => ⟨B₁, (F₂.lt _).go y, hS, ?_⟩
  refine ⟨fun i m₁ _ B₁ => (∃ t, m₁ "mixed" = some (.int (orderTo x i).2 t)) ∧ ∃ v, m₁ "order" = some v ∧ kInt.list.rel B₁ v (orderTo x i).1, ⟨⟨t, upd_get hm⟩, v₁, upd_same, hv₁⟩, ?_, ?_⟩
  · rintro i v m₁ cm₁ Z₁ B₂ s₄ hi ⟨u, rfl⟩ hsub ⟨⟨t₁, h1⟩, v₂, h2, h3⟩ F₃ hZ
    have hl := orderTo_len x i
    have hsz : sizeLine = 16777216 := rfl
    refine wpAny_execs_cons ?_
    refine F₃.set (CE.int (x := (((orderTo x i).2.fmod ((i : Int) + 1)).toNat : Int)) fun B' s' y => ?_) fun v₃ B₃ s₅ hs₃ hv₃ F₄ => ?_
    · have R₃ := F₃.rd.stp y
      refine .to (.mod (.loc R₃ ⟨t₁, upd_get h1⟩) (.add (.loc R₃ ⟨u, upd_same⟩) .cst) (by omega)) ?_
      exact (Int.toNat_of_nonneg (Int.fmod_nonneg_of_pos _ (by omega))).symm
    dsimp only
    refine wpAny_execs_cons ?_
    refine F₄.set (CE.add (k := kInt) (.add (.upto (.loc F₄.rd (upd_get (upd_get h2)) (kInt.list.mono hs₃ h3)) (.loc F₄.rd upd_same hv₃) (by omega)) (.one (.loc (x := (i : Int)) F₄.rd (upd_get upd_same) ⟨u, rfl⟩)) (by simp; omega)) (.from' (.loc F₄.rd (upd_get (upd_get h2)) (kInt.list.mono hs₃ h3)) (.loc F₄.rd upd_same hv₃) (by omega)) (by simp; omega)) fun v₄ B₄ s₆ hs₄ hv₄ F₅ => ?_
    dsimp only
    refine wpAny_execs_cons ?_
    refine F₅.set (CE.int (x := (orderTo x i).2.fdiv ((i : Int) + 1)) fun B' s' y => ?_) fun v₅ B₅ s₇ hs₅ hv₅ F₆ => ?_
    · have R₃ := F₅.rd.stp y
      exact .div (.loc R₃ ⟨t₁, upd_get (upd_get (upd_get h1))⟩) (.add (.loc R₃ ⟨u, upd_get (upd_get upd_same)⟩) .cst) (by omega) (by omega)
    dsimp only
    refine wpAny_execs_nil ?_
    obtain ⟨t₅, rfl⟩ := hv₅
    exact ⟨_, _, B₅, fun p hp => hs₅ p (hs₄ p (hs₃ p hp)), ⟨⟨t₅, upd_same⟩, v₄, upd_get upd_same, kInt.list.mono hs₅ hv₄⟩, F₆⟩
  · rintro m₁ cm₁ B₂ s₄ hsub ⟨_, v₂, h2, h3⟩ F₃
    dsimp only
    refine wpAny_execs_cons ?_
    exact F₃.ret (.loc F₃.rd h2 h3) fun v B' s' _ hv F₄ => ⟨B', F₄.stp, hv⟩
end
end Mine

end
section
open PySem PySem.W PyProof.Rows PySem.Calls
set_option Elab.async false
set_option autoImplicit false
set_option linter.unusedVariables false
set_option maxRecDepth 100000
namespace Mine
section
variable {prog : Program} {w : World} {h00 : Heap} {mg mb : Str → Option Value} {A₀ : Around} {B₀ : Led} {s₀ : Shared} {env : Env} {m cm : Str → Option Value} {Z : List (Addr × Obj)} {B : Led} {s : Shared}
theorem for_itc {c : Addr} {x : Str} {px : Pos} {body : List Stmt} {oI : Obj} {n : Nat} {P : Nat → Value → Prop} {St : Nat → Obj → Prop} {Q : Flow → Shared → Prop} {I : Addr}
    (T : Iter prog w (A₀.deeper env) I B n P St) (hst : St 0 oI) (F : Fm h00 mg mb A₀ B₀ s₀ env m cm ((I, oI) :: Z) B s) (hZ : ∀ p ∈ Z, p.1 ≠ I)
    (J : Nat → (Str → Option Value) → (Str → Option Value) → Led → Prop) (h0 : J 0 m cm B)
    (turn : ∀ i v m₁ cm₁ Z₁ B₁ s₁, i < n → P i v → (∀ p ∈ B, p ∈ B₁) → J i m₁ cm₁ B₁ → Fm h00 mg mb A₀ B₀ s₀ env m₁ (upd cm₁ x v) Z₁ B₁ s₁ → (∀ p ∈ Z, p ∈ Z₁) →
      wpAny (model prog w) (A₀.deeper env) (execs body env) (TurnEnd h00 mg mb A₀ B₀ s₀ env Z₁ B₁ (J (i + 1)) Q) (fun _ _ => False) s₁)
    (done : ∀ m₁ cm₁ B₁ s₁, (∀ p ∈ B, p ∈ B₁) → J n m₁ cm₁ B₁ → Fm h00 mg mb A₀ B₀ s₀ env m₁ cm₁ Z B₁ s₁ → Q .next s₁)
    (hc : env.cells.lookup x = some c) (hk : env.scope.kind = .function := by rfl) (hx : env.kindOf x = some .cell := by rfl) :
    codeAny (model prog w) (A₀.deeper env) (.forLoop (.Name x px) (.ref I) body [] env) (fun r s' => match r with | .ok f => Q f s' | .error e => cameBackBy (model prog w) (A₀.deeper env) env (fun _ _ => False) e s') s := by
  refine codeAny_forLoop (fun k s' => ∃ i o m₁ cm₁ B₁, i ≤ n ∧ k = n + 1 - i ∧ St i o ∧ (∀ p ∈ B, p ∈ B₁) ∧ J i m₁ cm₁ B₁ ∧ Fm h00 mg mb A₀ B₀ s₀ env m₁ cm₁ ((I, o) :: Z) B₁ s') ?_ (n + 1) ⟨0, oI, m, cm, B, Nat.zero_le _, rfl, hst, fun _ h => h, h0, F⟩
  rintro k s' ⟨i, o, m₁, cm₁, B₁, hi, rfl, hst', hsub, hJ, F'⟩
  have hasB : Has s'.heap B := fun p hp => F'.rd.has p (hsub p hp)
  by_cases hlt : i < n
  · refine T.item i s' o _ _ hlt hasB (F'.pin _ (.head _)).1 hst' fun v h' tk o' hP ho' hst'' hs' => ?_
    have F₁ := F'.repin (tk := tk) hs' ho' hZ
    refine wpAny_assign_Name (F₁.stc hc (fun s₂ F₂ => ?_) hk hx)
    refine wpAny_mono (turn i v m₁ cm₁ _ B₁ s₂ hlt hP hsub hJ F₂ fun p hp => .tail _ hp) (fun f s₃ h₃ => ?_) fun _ _ q => q.elim
    cases f with
    | next => obtain ⟨m₂, cm₂, B₂, a, b, c⟩ := h₃; exact ⟨n + 1 - (i + 1), by omega, i + 1, o', m₂, cm₂, B₂, hlt, rfl, hst'', fun p hp => a p (hsub p hp), b, c⟩
    | cont => obtain ⟨m₂, cm₂, B₂, a, b, c⟩ := h₃; exact ⟨n + 1 - (i + 1), by omega, i + 1, o', m₂, cm₂, B₂, hlt, rfl, hst'', fun p hp => a p (hsub p hp), b, c⟩
    | brk => exact h₃
    | ret v => exact h₃
  · have e : i = n := by omega
    subst e
    refine T.done s' o _ _ hasB (F'.pin _ (.head _)).1 hst' fun h' tk hs' => wpAny_execs_nil ?_
    exact done m₁ cm₁ B₁ _ hsub hJ (F'.unpin (tk := tk) hs' hZ)

/-- the whole statement -/
theorem For_c {c : Addr} {x : Str} {px pos : Pos} {iter : PySem.Expr} {body : List Stmt} {n : Nat} {P : Nat → Value → Prop} {Q : Flow → Shared → Prop} {E : Value → Shared → Prop}
    (_F : Fm h00 mg mb A₀ B₀ s₀ env m cm Z B s) (hiter : wpAny (model prog w) (A₀.deeper env) (eval iter env) (fun xv s₁ => ∃ B₁, Fm h00 mg mb A₀ B₀ s₀ env m cm Z B₁ s₁ ∧ Src prog w (A₀.deeper env) B₁ xv n P s₁ ∧ ∃ (J : Nat → (Str → Option Value) → (Str → Option Value) → Led → Prop), J 0 m cm B₁ ∧
      (∀ i v m₁ cm₁ Z₁ B₂ s₂, i < n → P i v → (∀ p ∈ B₁, p ∈ B₂) → J i m₁ cm₁ B₂ → Fm h00 mg mb A₀ B₀ s₀ env m₁ (upd cm₁ x v) Z₁ B₂ s₂ → (∀ p ∈ Z, p ∈ Z₁) →
        wpAny (model prog w) (A₀.deeper env) (execs body env) (TurnEnd h00 mg mb A₀ B₀ s₀ env Z₁ B₂ (J (i + 1)) Q) (fun _ _ => False) s₂) ∧
      (∀ m₁ cm₁ B₂ s₂, (∀ p ∈ B₁, p ∈ B₂) → J n m₁ cm₁ B₂ → Fm h00 mg mb A₀ B₀ s₀ env m₁ cm₁ Z B₂ s₂ → Q .next s₂)) (fun _ _ => False) s)
    (hc : env.cells.lookup x = some c) (hk : env.scope.kind = .function := by rfl) (hx : env.kindOf x = some .cell := by rfl) (hs : ∀ x, foldedSetIterable iter env x = pure x := by intro _; rfl) :
    wpAny (model prog w) (A₀.deeper env) (exec (.For (.Name x px) iter body [] pos) env) Q E s := by
  refine wpAny_noRaise (wpAny_For (wpAny_mono hiter (fun xv s₁ h₁ => ?_) fun _ _ q => q.elim) hs)
  obtain ⟨B₁, F₁, ⟨oI, St, hf, T, hst, hit⟩, J, h0, turn, done⟩ := h₁
  refine hit _ _ ?_
  refine for_itc T hst (F₁.push hf) (fun p hp e => ?_) J h0 turn done hc hk hx
  have := Heap.lt_size (F₁.pin p hp).1
  rw [e] at this
  exact Nat.lt_irrefl _ this
end
/-- a list as what a loop goes over -/
theorem Src.rel {prog : Program} {w : World} {A : Around} {B : Led} {s : Shared} {α : Type} {k : Kind α} {v : Value} {xs : List α} (hh : A.handled = none) (hb : Has s.heap B) (hv : k.list.rel B v xs) :
    Src prog w A B v xs.length (fun i u => ∃ x, xs[i]? = some x ∧ k.rel B u x) s := by
  obtain ⟨l, vs, rfl, m, r⟩ := hv
  obtain ⟨oI, St, hf, T, hst, hit⟩ := Src.list (prog := prog) (w := w) hh m hb
  refine ⟨oI, St, hf, ⟨fun i s o Q E hi hb' ho hs hq => ?_, fun s o Q E hb' ho hs hq => ?_, T.self, T.notSeq⟩, hst, hit⟩
  · refine T.item i s o Q E (by rw [r.len]; exact hi) hb' ho hs fun v h' tk o' hv => hq v h' tk o' ?_
    obtain ⟨x, e, hx⟩ := r.get hv
    exact ⟨x, e, hx⟩
  · exact T.done s o Q E hb' ho (by rw [r.len]; exact hs) hq
end Mine

end
section
open PySem PySem.W PyProof.Rows PySem.Calls
set_option Elab.async false
set_option autoImplicit false
set_option linter.unusedVariables false
set_option maxRecDepth 100000
namespace Mine

def stepS (S : List (List Int)) (l : Int) : List (List Int) := S.flatMap fun t => [t ++ [2 * l + ((0 : Nat) : Int)], t ++ [2 * l + ((1 : Nat) : Int)]]
def settingsL (ls : List Int) : List (List Int) := ls.foldl stepS [[]]
theorem stepS_len (S : List (List Int)) (l : Int) : (stepS S l).length = 2 * S.length := by
  induction S with
  | nil => rfl
  | cons t S ih => simp only [stepS, List.flatMap_cons, List.length_append, List.length_cons, List.length_nil] at ih ⊢; omega
theorem foldS_len (ls : List Int) (S : List (List Int)) : (ls.foldl stepS S).length = 2 ^ ls.length * S.length := by
  induction ls generalizing S with
  | nil => simp
  | cons l ls ih => rw [List.foldl_cons, ih, stepS_len, List.length_cons, Nat.pow_succ, Nat.mul_assoc]
theorem foldS_take {ls : List Int} {i : Nat} {x : Int} (h : ls[i]? = some x) : (ls.take (i + 1)).foldl stepS [[]] = stepS ((ls.take i).foldl stepS [[]]) x := by
  rw [List.take_add_one, h, List.foldl_append]; rfl
theorem stepS_take {S : List (List Int)} {i : Nat} {t : List Int} (h : S[i]? = some t) (l : Int) : stepS (S.take (i + 1)) l = stepS (S.take i) l ++ [t ++ [2 * l + ((0 : Nat) : Int)], t ++ [2 * l + ((1 : Nat) : Int)]] := by
  rw [List.take_add_one, h]; simp [stepS, List.flatMap_append]

theorem foldS_in (ls : List Int) : ∀ (S : List (List Int)) (n : Nat), (∀ t ∈ S, t.length = n) → ∀ t ∈ ls.foldl stepS S, t.length = n + ls.length := by
  induction ls with
  | nil => intro S n h t ht; simpa using h t ht
  | cons l ls ih =>
    intro S n h t ht
    have := ih (stepS S l) (n + 1) (fun u hu => ?_) t ht
    · rw [this, List.length_cons]; omega
    · obtain ⟨r, hr, hu⟩ := List.mem_flatMap.mp hu
      have := h r hr
      simp only [List.mem_cons, List.not_mem_nil, or_false] at hu
      rcases hu with rfl | rfl <;> simp [this]
theorem lookup_one {x : Str} {a : Addr} {l : List (Str × Addr)} (h : l.lookup x = some a) : ∀ n c, [(x, a)].lookup n = some c → l.lookup n = some c := by
  intro n c hn
  rw [List.lookup_cons] at hn
  split at hn
  · rename_i e; cases hn; rw [eq_of_beq e]; exact h
  · cases hn

section
variable {prog : Program} {w : World} {h00 : Heap} {mg mb : Str → Option Value} {A : Around} {B : Led} {s : Shared}
theorem settings_meets {f : Addr} {ann : Option Addr} {pm cd doc : Value} {v : Value} {ls : List Int} (D : IsDef h00 f (fdT 22 ann pm cd doc) (dBody (topOf 22))) (N : Nm mg mb) (e0 : Env0 h00 mg mb) (G : Gl h00 A s.heap) (hb : Has s.heap B) (R : Room A 1 4)
    (hv : kInt.list.rel B v ls) (hls : ls.length ≤ 4) : Con prog w A (call (.ref f) [v]) B s (fun B' r => kInt.list.list.rel B' r (settingsL ls)) := by
  have R' := R.deeper (callEnvC (fdT 22 ann pm cd doc) 0 f)
  refine call_def (binds := [("letters", v)]) e0 G hb D (by have := R.dp; omega) (by with_unfolding_all rfl) ?_ fun s₁ L F => ?_
  · intro x hx
    rcases List.mem_singleton.mp hx with rfl
    exact .inl (by rfl)
  have hm : (bindL (callEnvC (fdT 22 ann pm cd doc) L f).kindOf [("letters", v)] fun _ => none) "letters" = some v := by rfl
  generalize (bindL (callEnvC (fdT 22 ann pm cd doc) L f).kindOf [("letters", v)] fun _ => none) = m at F hm
  have hc : (callEnvC (fdT 22 ann pm cd doc) L f).cells.lookup ("letter" : Str) = some (L + 1) := by rfl
  refine wpAny_execs_cons ?_
  refine F.set (CE.one (k := kInt.list) (CE.nil (k := kInt))) fun v₁ B₁ s₂ hs₁ hv₁ F₂ => ?_
  dsimp only
  refine wpAny_execs_cons ?_
  refine For_c F₂ (n := ls.length) (P := fun i u => ∃ x, ls[i]? = some x ∧ kInt.rel B₁ u x) ?_ hc
  refine F₂.rd.name_l (upd_get hm) ?_
  refine ⟨B₁, F₂, Src.rel R'.hh F₂.rd.has (kInt.list.mono hs₁ hv), fun i m₁ _ B₂ => ∃ u, m₁ "settings" = some u ∧ kInt.list.list.rel B₂ u ((ls.take i).foldl stepS [[]]), ⟨v₁, upd_same, hv₁⟩, ?_, ?_⟩
  · rintro i v m₁ cm₁ Z₁ B₂ s₄ hi ⟨x, hx, u, rfl⟩ hsub ⟨v₂, h2, h3⟩ F₃ hZ
    have hlen : ((ls.take i).foldl stepS [[]]).length ≤ 16 := by
      rw [foldS_len, List.length_take]
      have : 2 ^ min i ls.length ≤ 2 ^ 4 := Nat.pow_le_pow_right (by omega) (by omega)
      simpa using this
    have hin : ∀ t ∈ (ls.take i).foldl stepS [[]], t.length ≤ 4 := fun t ht => by
      have := foldS_in (ls.take i) [[]] 0 (by simp) t ht
      rw [List.length_take] at this; omega
    generalize hS : (ls.take i).foldl stepS [[]] = S at h3 hlen hin
    refine wpAny_execs_cons ?_
    refine assign_comp2 F₃ (cl := [("letter", L + 1)]) (n := S.length) (P := fun i u => ∃ x, S[i]? = some x ∧ kInt.list.rel B₂ u x) (by rfl) (by rfl) ?_ ?_
    · refine F₃.rd.name_l h2 ?_
      refine ⟨B₂, F₃, Src.rel R'.hh F₃.rd.has h3, fun j ys B₃ => All2 (kInt.list.rel B₃) ys (stepS (S.take j) x), .nil, ?_, ?_⟩
      · rintro j v₃ ys B₃ s₅ C m₂ hj ⟨st, hst, hv₃⟩ hs₃ hJ R₅
        refine callT1 (fun Q' hq => R₅.name_b N.range.1 N.range.2 hq) ?_
        refine wpAny_Constant_int ?_
        refine range_ (n := 2) R'.hh (B := B₃) R₅.has (by decide) fun xv s₆ y hSr => ?_
        refine ⟨B₃, 2, _, ?_, hSr, fun k ys' B₄ => All2 (kInt.list.rel B₄) ys' (stepS (S.take j) x ++ [st ++ [2 * x + ((0 : Nat) : Int)], st ++ [2 * x + ((1 : Nat) : Int)]].take k), ?_, ?_, ?_⟩
        · exact Stp.trans (.keeps R₅.has fun _ _ e => e) y
        · simpa using hJ
        · rintro k u₂ ys' B₄ s₇ m₃ hk ⟨t₂, rfl⟩ hs₄ hK hm₃ R₇
          have hn : ys'.length ≤ sizeLine := by
            have a := hK.len
            have b := stepS_len (S.take j) x
            simp only [List.length_append, List.length_take, List.length_cons, List.length_nil, sizeLine] at a b ⊢
            omega
          refine Con.mono (P := fun B₅ e => kInt.list.rel B₅ e (st ++ [2 * x + (k : Int)])) ?_ fun B₅ e hs₅ he => ⟨hn, ?_⟩
          · refine CE.now (CE.add (.loc R₇ (upd_get hm₃) (kInt.list.mono (fun p hp => hs₄ p (hs₃ p hp)) hv₃)) (.one (.int fun B' s' y => ?_)) (by have := hin st (List.mem_of_getElem? hst); simp only [List.length_singleton, sizeLine]; omega)) R₇.has
            have R₈ := R₇.stp y
            exact .add (.mul .cst (.cel (c := L + 1) R₈ (by rfl) ⟨u, upd_same⟩)) (.loc R₈ ⟨t₂, upd_same⟩)
          · have e2 : [st ++ [2 * x + ((0 : Nat) : Int)], st ++ [2 * x + ((1 : Nat) : Int)]].take (k + 1) = [st ++ [2 * x + ((0 : Nat) : Int)], st ++ [2 * x + ((1 : Nat) : Int)]].take k ++ [st ++ [2 * x + (k : Int)]] := by
              have : k = 0 ∨ k = 1 := by omega
              rcases this with rfl | rfl <;> rfl
            show All2 _ _ _
            rw [e2, ← List.append_assoc]
            exact (hK.mono fun _ _ h => kInt.list.mono hs₅ h).app (.one he)
        · intro ys' B₄ hs₄ hK
          show All2 _ _ _
          rw [stepS_take hst]
          exact hK
      · rintro Dd ys B₃ s₅ hs₃ hJ F₄
        dsimp only
        refine wpAny_execs_nil ?_
        refine ⟨_, _, _, fun p hp => .tail _ (hs₃ p hp), ⟨_, upd_same, Dd, ys, rfl, .head _, ?_⟩, F₄⟩
        rw [foldS_take hx, hS]
        rw [List.take_length] at hJ
        exact hJ.mono fun _ _ h => kInt.list.mono (fun _ h => .tail _ h) h
    · exact lookup_one hc
  · rintro m₁ cm₁ B₂ s₄ hsub ⟨v₂, h2, h3⟩ F₃
    dsimp only
    refine wpAny_execs_cons ?_
    rw [List.take_length] at h3
    exact F₃.ret (.loc F₃.rd h2 h3) fun v B' s' _ hv F₄ => ⟨B', F₄.stp, hv⟩
end
end Mine

end
section
open PySem PySem.W PyProof.Rows PySem.Calls
set_option Elab.async false
set_option autoImplicit false
set_option linter.unusedVariables false
set_option maxRecDepth 100000
namespace Mine
section
variable {prog : Program} {w : World} {h00 : Heap} {mg mb : Str → Option Value} {A : Around} {env : Env} {m cm : Str → Option Value} {B : Led} {s₁ : Shared} {α β : Type} {k : Kind α} {k' : Kind β}
theorem Elt.one {cenv : Env} {t elt : PySem.Expr} {ys : List Value} {B₁ : Led} {s₃ : Shared} {J : List Value → Led → Prop}
    (h : wpAny (model prog w) A (isTrue t cenv (eval t cenv)) (fun ok s₄ => if ok = true then wpAny (model prog w) A (eval elt cenv) (fun y s₅ => ys.length ≤ sizeLine ∧ ∃ B₃, Stp A B₁ s₃ B₃ s₅ ∧ J (ys ++ [y]) B₃) (fun _ _ => False) s₄ else ∃ B₂, Stp A B₁ s₃ B₂ s₄ ∧ J ys B₂) (fun _ _ => False) s₃) : Elt prog w A cenv [t] elt ys B₁ s₃ J := by
  unfold Elt testsOf
  show wpAny _ _ (forIn [t] true _) _ _ _
  simp only [List.forIn_cons, List.forIn_nil, if_true]
  refine wpAny_bind (wpAny_bind (wpAny_mono h (fun ok s₄ h₄ => wpAny_pure (wpAny_pure h₄)) fun _ _ x => x))

theorem app_one {r : Value → α → Prop} {vs : List Value} {xs : List α} {v : Value} {x : α} (h : All2 r vs xs) (hv : r v x) : All2 r (vs ++ [v]) (xs ++ [x]) := h.app (.one hv)
theorem map_take {xs : List α} {i : Nat} {x : α} (h : xs[i]? = some x) (g : α → β) : (xs.take (i + 1)).map g = (xs.take i).map g ++ [g x] := by rw [List.take_add_one, h]; simp
theorem filter_take {xs : List α} {i : Nat} {x : α} (h : xs[i]? = some x) (p : α → Bool) : (xs.take (i + 1)).filter p = if p x = true then (xs.take i).filter p ++ [x] else (xs.take i).filter p := by
  rw [List.take_add_one, h, List.filter_append]
  split <;> rename_i e <;> simp [e]
theorem len_lt {xs : List α} {i : Nat} {x : α} (h : xs[i]? = some x) : i < xs.length := (List.getElem?_eq_some_iff.mp h).1

/-- what each turn does: a map -/
def TMap (prog : Program) (w : World) (h00 : Heap) (mg mb : Str → Option Value) (A : Around) (scope : Scope) (cl : List (Str × Addr)) (env : Env) (cm : Str → Option Value) (B : Led) (n : Str) (elt : PySem.Expr) (k : Kind α) (k' : Kind β) (xs : List α) (g : α → β) : Prop :=
  ∀ x v B₂ s₃ C m₂, x ∈ xs → k.rel B₂ v x → (∀ p ∈ B, p ∈ B₂) → Rd h00 mg mb A (compEnvC scope cl C env) (upd m₂ n v) cm B₂ s₃.heap → Con prog w A (eval elt (compEnvC scope cl C env)) B₂ s₃ (fun B₃ y => k'.rel B₃ y (g x))
/-- a filter -/
def TFil (prog : Program) (w : World) (h00 : Heap) (mg mb : Str → Option Value) (A : Around) (scope : Scope) (cl : List (Str × Addr)) (env : Env) (cm : Str → Option Value) (B : Led) (n : Str) (t : PySem.Expr) (k : Kind α) (xs : List α) (p : α → Bool) : Prop :=
  ∀ x v B₂ s₃ C m₂, x ∈ xs → k.rel B₂ v x → (∀ p ∈ B, p ∈ B₂) → Rd h00 mg mb A (compEnvC scope cl C env) (upd m₂ n v) cm B₂ s₃.heap → Con prog w A (isTrue t (compEnvC scope cl C env) (eval t (compEnvC scope cl C env))) B₂ s₃ (fun _ ok => ok = p x)

theorem TMap.turn {scope : Scope} {cl : List (Str × Addr)} {n : Str} {elt : PySem.Expr} {xs : List α} {g : α → β} (hsz : xs.length ≤ sizeLine) (T : TMap prog w h00 mg mb A scope cl env cm B n elt k k' xs g) {i : Nat} {v : Value} {ys : List Value} {B₁ B₂ : Led} {s₃ : Shared} {C : Addr} {m₂ : Str → Option Value}
    (hsub : ∀ p ∈ B, p ∈ B₁) (hv : ∃ x, xs[i]? = some x ∧ k.rel B₁ v x) (hs : ∀ p ∈ B₁, p ∈ B₂) (hJ : All2 (k'.rel B₂) ys ((xs.take i).map g)) (R : Rd h00 mg mb A (compEnvC scope cl C env) (upd m₂ n v) cm B₂ s₃.heap) :
    Elt prog w A (compEnvC scope cl C env) [] elt ys B₂ s₃ (fun ys B₃ => All2 (k'.rel B₃) ys ((xs.take (i + 1)).map g)) := by
  obtain ⟨x, hx, hv⟩ := hv
  have := len_lt hx
  refine Elt.all ?_ ?_
  · have := hJ.len; simp only [List.length_map, List.length_take] at this; omega
  · refine (T x v B₂ s₃ C m₂ (List.mem_of_getElem? hx) (k.mono hs hv) (fun p hp => hs p (hsub p hp)) R).mono fun B₃ y hs₃ hy => ?_
    rw [map_take hx]
    exact app_one (hJ.mono fun _ _ h => k'.mono hs₃ h) hy
theorem TFil.turn {scope : Scope} {cl : List (Str × Addr)} {n : Str} {t : PySem.Expr} {np : Pos} {xs : List α} {p : α → Bool} (hsz : xs.length ≤ sizeLine) (T : TFil prog w h00 mg mb A scope cl env cm B n t k xs p) {i : Nat} {v : Value} {ys : List Value} {B₁ B₂ : Led} {s₃ : Shared} {C : Addr} {m₂ : Str → Option Value}
    (hsub : ∀ p ∈ B, p ∈ B₁) (hv : ∃ x, xs[i]? = some x ∧ k.rel B₁ v x) (hs : ∀ p ∈ B₁, p ∈ B₂) (hJ : All2 (k.rel B₂) ys ((xs.take i).filter p)) (R : Rd h00 mg mb A (compEnvC scope cl C env) (upd m₂ n v) cm B₂ s₃.heap)
    (hk : scope.kind = .function) (hl : scope.names.lookup n = some .local) (hd : (n == ("__debug__" : Str)) = false) :
    Elt prog w A (compEnvC scope cl C env) [t] (.Name n np) ys B₂ s₃ (fun ys B₃ => All2 (k.rel B₃) ys ((xs.take (i + 1)).filter p)) := by
  obtain ⟨x, hx, hv⟩ := hv
  have := len_lt hx
  refine Elt.one ((T x v B₂ s₃ C m₂ (List.mem_of_getElem? hx) (k.mono hs hv) (fun p hp => hs p (hsub p hp)) R).use fun ok B₃ s₄ y hok => ?_)
  have hlen : ys.length ≤ sizeLine := by
    have h1 := hJ.len
    have h2 := List.length_filter_le p (xs.take i)
    simp only [List.length_take] at h2; omega
  rw [hok, filter_take hx]
  cases p x with
  | true =>
    refine (R.stp y).name_l (v := v) upd_same ⟨hlen, B₃, y, ?_⟩ hk (lookup_relabel_local hl) hd
    exact app_one (hJ.mono fun _ _ h => k.mono y.sub h) (k.mono (fun p hp => y.sub p (hs p hp)) hv)
  | false => exact ⟨B₃, y, hJ.mono fun _ _ h => k.mono y.sub h⟩

theorem con_map {elt iter : PySem.Expr} {n : Str} {px pos : Pos} {scope : Scope} {cl : List (Str × Addr)} {s : Shared} {xs : List α} {g : α → β} (R : Rd h00 mg mb A env m cm B s.heap) (hclos : closureFor scope env = pure cl) (hh : A.handled = none) (hsz : xs.length ≤ sizeLine)
    (hi : Con prog w A (eval iter env) B s (fun B v => k.list.rel B v xs)) (T : TMap prog w h00 mg mb A scope cl env cm B n elt k k' xs g)
    (hcl : ∀ n c, cl.lookup n = some c → env.cells.lookup n = some c) (hcell : ∀ y ∈ scope.names, y.2 ≠ .cell := by decide) (hkind : scope.kind = .function := by rfl) (hx : scope.names.lookup n = some .local := by rfl)
    (hnames : ∀ y ∈ scope.names, y.2 = .local → scope.names.lookup y.1 = some .local := by decide) (hs : ∀ x, foldedSetIterable iter env x = pure x := by intro _; rfl) :
    Con prog w A (eval (.ListComp elt [⟨.Name n px, iter, [], 0⟩] scope pos) env) B s (fun B v => k'.list.rel B v (xs.map g)) := by
  refine con_comp (n := xs.length) (P' := fun B v => k'.list.rel B v (xs.map g)) R hclos (hi.use fun xv B₁ s₁ y hv => ⟨B₁, _, y, R.stp y, Src.rel (by exact hh) y.has hv, fun i ys B => All2 (k'.rel B) ys ((xs.take i).map g), .nil, ?_, ?_⟩) hcl hcell hkind hx hnames hs
  · intro i v ys B₂ s₃ C m₂ _ hv hs hJ R₂
    exact T.turn hsz y.sub hv hs hJ R₂
  · intro D ys B₂ hs hJ
    rw [List.take_length] at hJ
    exact ⟨D, ys, rfl, .head _, hJ.mono fun _ _ h => k'.mono (fun _ h => .tail _ h) h⟩
theorem con_filter {t iter : PySem.Expr} {n : Str} {px np pos : Pos} {scope : Scope} {cl : List (Str × Addr)} {s : Shared} {xs : List α} {p : α → Bool} (R : Rd h00 mg mb A env m cm B s.heap) (hclos : closureFor scope env = pure cl) (hh : A.handled = none) (hsz : xs.length ≤ sizeLine)
    (hi : Con prog w A (eval iter env) B s (fun B v => k.list.rel B v xs)) (T : TFil prog w h00 mg mb A scope cl env cm B n t k xs p)
    (hcl : ∀ n c, cl.lookup n = some c → env.cells.lookup n = some c) (hcell : ∀ y ∈ scope.names, y.2 ≠ .cell := by decide) (hkind : scope.kind = .function := by rfl) (hx : scope.names.lookup n = some .local := by rfl)
    (hnames : ∀ y ∈ scope.names, y.2 = .local → scope.names.lookup y.1 = some .local := by decide) (hs : ∀ x, foldedSetIterable iter env x = pure x := by intro _; rfl) (hd : (n == ("__debug__" : Str)) = false := by decide) :
    Con prog w A (eval (.ListComp (.Name n np) [⟨.Name n px, iter, [t], 0⟩] scope pos) env) B s (fun B v => k.list.rel B v (xs.filter p)) := by
  refine con_comp (n := xs.length) (P' := fun B v => k.list.rel B v (xs.filter p)) R hclos (hi.use fun xv B₁ s₁ y hv => ⟨B₁, _, y, R.stp y, Src.rel (by exact hh) y.has hv, fun i ys B => All2 (k.rel B) ys ((xs.take i).filter p), .nil, ?_, ?_⟩) hcl hcell hkind hx hnames hs
  · intro i v ys B₂ s₃ C m₂ _ hv hs hJ R₂
    exact T.turn hsz y.sub hv hs hJ R₂ hkind hx hd
  · intro D ys B₂ hs hJ
    rw [List.take_length] at hJ
    exact ⟨D, ys, rfl, .head _, hJ.mono fun _ _ h => k.mono (fun _ h => .tail _ h) h⟩
end

section
variable {prog : Program} {w : World} {h00 : Heap} {mg mb : Str → Option Value} {A₀ : Around} {B₀ : Led} {s₀ : Shared} {env : Env} {m cm : Str → Option Value} {Z : List (Addr × Obj)} {B : Led} {s : Shared} {α β : Type} {k : Kind α} {k' : Kind β}
theorem Fm.map {elt iter : PySem.Expr} {n y : Str} {px py pos spos : Pos} {scope : Scope} {cl : List (Str × Addr)} {xs : List α} {g : α → β} {Q : Flow → Shared → Prop} {E : Value → Shared → Prop} (F : Fm h00 mg mb A₀ B₀ s₀ env m cm Z B s) (hclos : closureFor scope env = pure cl) (hsw : swapsWith (.ListComp elt [⟨.Name n px, iter, [], 0⟩] scope pos) (some (.Name y py)) spos.line env = pure true) (hh : A₀.handled = none) (hsz : xs.length ≤ sizeLine)
    (hi : Con prog w (A₀.deeper env) (eval iter env) B s (fun B v => k.list.rel B v xs)) (T : TMap prog w h00 mg mb (A₀.deeper env) scope cl env cm B n elt k k' xs g)
    (h : ∀ v B' s', (∀ p ∈ B, p ∈ B') → k'.list.rel B' v (xs.map g) → Fm h00 mg mb A₀ B₀ s₀ env (upd m y v) cm Z B' s' → Q .next s')
    (hcl : ∀ n c, cl.lookup n = some c → env.cells.lookup n = some c) (hk : env.scope.kind = .function := by rfl) (hy : env.kindOf y = some .local := by rfl) (hcell : ∀ y ∈ scope.names, y.2 ≠ .cell := by decide) (hkind : scope.kind = .function := by rfl) (hx : scope.names.lookup n = some .local := by rfl)
    (hnames : ∀ y ∈ scope.names, y.2 = .local → scope.names.lookup y.1 = some .local := by decide) (hs : ∀ x, foldedSetIterable iter env x = pure x := by intro _; rfl) :
    wpAny (model prog w) (A₀.deeper env) (exec (.Assign [.Name y py] (.ListComp elt [⟨.Name n px, iter, [], 0⟩] scope pos) spos) env) Q E s := by
  refine assign_comp F (n := xs.length) hclos hsw (hi.use fun xv B₁ s₁ y hv => ⟨B₁, _, F.go y, Src.rel (by exact hh) y.has hv, fun i ys B => All2 (k'.rel B) ys ((xs.take i).map g), .nil, ?_, ?_⟩) hcl hk hy hcell hkind hx hnames hs
  · intro i v ys B₂ s₃ C m₂ _ hv hs hJ R₂
    exact T.turn hsz y.sub hv hs hJ R₂
  · intro D ys B₂ s' hs hJ F'
    rw [List.take_length] at hJ
    exact h _ _ s' (fun p hp => .tail _ (hs p (y.sub p hp))) ⟨D, ys, rfl, .head _, hJ.mono fun _ _ h => k'.mono (fun _ h => .tail _ h) h⟩ F'
theorem Fm.filter {t iter : PySem.Expr} {n y : Str} {px py np pos spos : Pos} {scope : Scope} {cl : List (Str × Addr)} {xs : List α} {p : α → Bool} {Q : Flow → Shared → Prop} {E : Value → Shared → Prop} (F : Fm h00 mg mb A₀ B₀ s₀ env m cm Z B s) (hclos : closureFor scope env = pure cl) (hsw : swapsWith (.ListComp (.Name n np) [⟨.Name n px, iter, [t], 0⟩] scope pos) (some (.Name y py)) spos.line env = pure true) (hh : A₀.handled = none) (hsz : xs.length ≤ sizeLine)
    (hi : Con prog w (A₀.deeper env) (eval iter env) B s (fun B v => k.list.rel B v xs)) (T : TFil prog w h00 mg mb (A₀.deeper env) scope cl env cm B n t k xs p)
    (h : ∀ v B' s', (∀ p ∈ B, p ∈ B') → k.list.rel B' v (xs.filter p) → Fm h00 mg mb A₀ B₀ s₀ env (upd m y v) cm Z B' s' → Q .next s')
    (hcl : ∀ n c, cl.lookup n = some c → env.cells.lookup n = some c) (hk : env.scope.kind = .function := by rfl) (hy : env.kindOf y = some .local := by rfl) (hcell : ∀ y ∈ scope.names, y.2 ≠ .cell := by decide) (hkind : scope.kind = .function := by rfl) (hx : scope.names.lookup n = some .local := by rfl)
    (hnames : ∀ y ∈ scope.names, y.2 = .local → scope.names.lookup y.1 = some .local := by decide) (hs : ∀ x, foldedSetIterable iter env x = pure x := by intro _; rfl) (hd : (n == ("__debug__" : Str)) = false := by decide) :
    wpAny (model prog w) (A₀.deeper env) (exec (.Assign [.Name y py] (.ListComp (.Name n np) [⟨.Name n px, iter, [t], 0⟩] scope pos) spos) env) Q E s := by
  refine assign_comp F (n := xs.length) hclos hsw (hi.use fun xv B₁ s₁ y hv => ⟨B₁, _, F.go y, Src.rel (by exact hh) y.has hv, fun i ys B => All2 (k.rel B) ys ((xs.take i).filter p), .nil, ?_, ?_⟩) hcl hk hy hcell hkind hx hnames hs
  · intro i v ys B₂ s₃ C m₂ _ hv hs hJ R₂
    exact T.turn hsz y.sub hv hs hJ R₂ hkind hx hd
  · intro D ys B₂ s' hs hJ F'
    rw [List.take_length] at hJ
    exact h _ _ s' (fun p hp => .tail _ (hs p (y.sub p hp))) ⟨D, ys, rfl, .head _, hJ.mono fun _ _ h => k.mono (fun _ h => .tail _ h) h⟩ F'
end
end Mine

end
section
open PySem PySem.W PyProof.Rows PySem.Calls
set_option Elab.async false
set_option autoImplicit false
set_option linter.unusedVariables false
set_option maxRecDepth 100000
namespace Mine

def holdsB (cs : List (List Int)) (st : List Int) : Bool := cs.all fun c => c.any fun x => decide (x ∈ st)
theorem holdsB_take {cs : List (List Int)} {i : Nat} {c : List Int} (h : cs[i]? = some c) (st : List Int) : holdsB (cs.take (i + 1)) st = (holdsB (cs.take i) st && c.any fun x => decide (x ∈ st)) := by
  rw [holdsB, List.take_add_one, h, List.all_append]; simp [holdsB]
theorem filter_nil (c : List Int) (p : Int → Bool) : c.filter p = [] ↔ c.any p = false := by
  rw [List.filter_eq_nil_iff, List.any_eq_false]

section
variable {prog : Program} {w : World} {h00 : Heap} {mg mb : Str → Option Value} {A : Around} {B : Led} {s : Shared}
theorem holds_meets {f : Addr} {ann : Option Addr} {pm cd doc : Value} {v u : Value} {cs : List (List Int)} {st : List Int} (D : IsDef h00 f (fdT 23 ann pm cd doc) (dBody (topOf 23))) (e0 : Env0 h00 mg mb) (G : Gl h00 A s.heap) (hb : Has s.heap B) (R : Room A 1 9)
    (hv : kInt.list.list.rel B v cs) (hu : kInt.list.rel B u st) (hsz : ∀ c ∈ cs, c.length ≤ sizeLine) : Con prog w A (call (.ref f) [v, u]) B s (fun B' r => r = .bool (holdsB cs st)) := by
  refine call_def (binds := [("clauses", v), ("setting", u)]) e0 G hb D (by have := R.dp; omega) (by with_unfolding_all rfl) ?_ fun s₁ L F => ?_
  · intro x hx
    simp only [List.mem_cons, List.not_mem_nil, or_false] at hx
    rcases hx with rfl | rfl
    · exact .inl (by rfl)
    · exact .inr ⟨by rfl, by rfl⟩
  have R' : Room (A.deeper (callEnvC (fdT 23 ann pm cd doc) L f)) 0 6 := R.deeper _
  have hm : (bindL (callEnvC (fdT 23 ann pm cd doc) L f).kindOf [("clauses", v), ("setting", u)] fun _ => none) "clauses" = some v := by rfl
  have hcm : (bindC (callEnvC (fdT 23 ann pm cd doc) L f).kindOf [("clauses", v), ("setting", u)] fun _ => none) "setting" = some u := by rfl
  generalize (bindL (callEnvC (fdT 23 ann pm cd doc) L f).kindOf [("clauses", v), ("setting", u)] fun _ => none) = m at F hm
  generalize (bindC (callEnvC (fdT 23 ann pm cd doc) L f).kindOf [("clauses", v), ("setting", u)] fun _ => none) = cm at F hcm
  have hc : (callEnvC (fdT 23 ann pm cd doc) L f).cells.lookup ("setting" : Str) = some (L + 1) := by rfl
  refine wpAny_execs_cons ?_
  refine For_ F (n := cs.length) (P := fun i u => ∃ x, cs[i]? = some x ∧ kInt.list.rel B u x) ?_
  refine F.rd.name_l hm ?_
  refine ⟨B, F, Src.rel R'.hh F.rd.has hv, fun i m₁ cm₁ B₂ => cm₁ "setting" = some u ∧ holdsB (cs.take i) st = true, ⟨hcm, by simp [holdsB]⟩, ?_, ?_⟩
  · rintro i v₁ m₁ cm₁ Z₁ B₂ s₂ hi ⟨c, hcs, hv₁⟩ hsub ⟨hcm₁, hJ⟩ F₂ hZ
    have hlen := hsz c (List.mem_of_getElem? hcs)
    refine wpAny_execs_cons (wpAny_If (wpAny_isTrue_Compare1 ?_))
    refine (con_filter (k := kInt) (xs := c) (p := fun x => decide (x ∈ st)) F₂.rd (cl := [("setting", L + 1)]) (by rfl) R'.hh hlen ((CE.loc F₂.rd upd_same (kInt.list.mono hsub hv₁)).now F₂.rd.has) ?_ (lookup_one hc)).use fun v₂ B₃ s₃ y₃ hv₂ => ?_
    · intro x v₃ B₃ s₃ C m₂ hx hv₃ hs₃ R₃
      refine wpAny_isTrue_Compare1 (R₃.name_l upd_same ?_)
      refine R₃.name_c (c := L + 1) (by rfl) hcm₁ ?_
      refine in_list kInt R₃.has hv₃ (kInt.list.mono (fun p hp => hs₃ p (hsub p hp)) hu) (by have := R'.un; simp only [kInt] at this ⊢; omega) (decide (x ∈ st)) decide_eq_true_iff ?_
      exact wpAny_truthy_bool ⟨B₃, .refl R₃.has, rfl⟩
    · have F₃ := F₂.go y₃
      refine (CE.nil (k := kInt) B₃ s₃ (.refl F₃.rd.has)).use fun v₄ B₄ s₄ y₄ hv₄ => ?_
      have F₄ := F₃.go y₄
      refine eq_lists kInt F₄.rd.has (kInt.list.mono y₄.sub hv₂) hv₄ (by have := R'.un; simp only [kInt] at this ⊢; omega) (!(c.any fun x => decide (x ∈ st))) (by rw [filter_nil, Bool.not_eq_true']) ?_
      refine wpAny_truthy_bool ?_
      cases hany : (c.any fun x => decide (x ∈ st)) with
      | true =>
        refine wpAny_execs_nil (wpAny_execs_nil ?_)
        refine ⟨_, _, B₄, fun p hp => y₄.sub p (y₃.sub p hp), ⟨hcm₁, ?_⟩, F₄⟩
        rw [holdsB_take hcs, hJ, hany]; rfl
      | false =>
        refine wpAny_execs_cons (wpAny_Return_some (wpAny_Constant_bool ?_))
        refine ⟨B₄, F₄.stp, ?_⟩
        have : holdsB cs st = false := by
          rw [holdsB, List.all_eq_false]
          exact ⟨c, List.mem_of_getElem? hcs, by simp [hany]⟩
        rw [this]
  · rintro m₁ cm₁ B₂ s₂ hsub ⟨hcm₁, hJ⟩ F₂
    refine wpAny_execs_cons (wpAny_Return_some (wpAny_Constant_bool ?_))
    rw [List.take_length] at hJ
    exact ⟨B₂, F₂.stp, by rw [hJ]⟩
end
end Mine

end
section
open PySem PySem.W PyProof.Rows PySem.Calls
set_option Elab.async false
set_option autoImplicit false
set_option linter.unusedVariables false
set_option maxRecDepth 100000
namespace Mine
/-! the bound method xs.__contains__ -/
abbrev bcObj (l : Addr) : Obj := { cls := .type "method-wrapper", data := .fields #[.builtin "list.__contains__", .ref l] }

theorem bc_lookup : typeLookup (.type "list") "__contains__" = pure (some (.builtin "list.__contains__")) := PySem.F.slot_list_contains.lookup
theorem bc_type : typeOf (.builtin "list.__contains__") = pure (.type "wrapper_descriptor") := by show builtinType _ = _; rw [builtinType_eq_fast]; kernel_rfl
theorem bc_slot : Slot "wrapper_descriptor" "__get__" "wrapper_descriptor.__get__" :=
  .of (owner := "wrapper_descriptor") (n := "__get__") (by rw [typeLookup_type, builtinLookup_eq_fast]; kernel_rfl) (by decide +kernel) (by decide +kernel) (by decide +kernel)
    (by first | exact .inl (by decide +kernel) | exact .inr (by decide +kernel)) (by rw [isSubtype_type]; kernel_rfl)
theorem bc_noset : typeLookup (.type "wrapper_descriptor") "__set__" = pure none := by rw [typeLookup_type, builtinLookup_eq_fast]; kernel_rfl
theorem bc_nodel : typeLookup (.type "wrapper_descriptor") "__delete__" = pure none := by rw [typeLookup_type, builtinLookup_eq_fast]; kernel_rfl
theorem bc_entry : entryFor table "wrapper_descriptor.__get__" = some Builtin.«wrapper_descriptor.__get__» := entryFor_of_tree (by kernel_rfl)
theorem bc_args (a b c : Value) : argsOk "wrapper_descriptor.__get__" ⟨[a, b, c], []⟩ := by unfold argsOk; kernel_rfl
theorem bc_run {M : Model} {A : Around} {E : Value → Shared → Prop} {s : Shared} {l : Addr} {P : Fin → Shared → Prop} (hT : s.TypeIs (.ref l) "list") (h : P (.done (.ret (.ref s.heap.objs.size))) { s with heap := s.heap.push (bcObj l) }) :
    wpAny M A (Builtin.«wrapper_descriptor.__get__» ⟨[.builtin "list.__contains__", .ref l, .type "list"], []⟩) P E s := by
  unfold Builtin.«wrapper_descriptor.__get__»
  refine wpAny_bind (wpAny_of_eq (a := (.builtin "list.__contains__", some (.ref l), some (.type "list"))) (by first | rfl | kernel_rfl) ?_)
  refine wpAny_bind ?_
  refine wpAny_bind (wpAny_of_eq (a := (("__contains__" : Str), Value.type "list")) (by first | rfl | kernel_rfl) ?_)
  refine wpAny_bind (wpAny_isInstance (T := "list") (b := true) hT (by rw [isSubtype_type]; kernel_rfl) ?_)
  refine wpAny_pure ?_
  exact wpAny_bind (wpAny_newObj_type (wpAny_pure h))


section
variable {prog : Program} {w : World} {A : Around} {E : Value → Shared → Prop} {s : Shared} {l : Addr} {xs : Array Value}
theorem bc_ga {tk : Tok} {R : Result → Shared → Prop} {h : Heap} {g : Array GenState} {d : Drawn} {t : Nat} {os : OsState} {n : Nat} {sl : Array (Option Value)} (hx : h.get? l = some { cls := .type "list", data := .seq xs n, slots := sl })
    (hq : R (.ok (.ret (.ref h.objs.size))) ⟨h.push (bcObj l), g, d, t, os⟩) :
    codeAny (model prog w) A (.call (.builtin "list.__getattribute__") ⟨[.ref l, .str "__contains__" tk], []⟩) R ⟨h, g, d, t, os⟩ := by
  have hT : (⟨h, g, d, t, os⟩ : Shared).TypeIs (.ref l) "list" := ⟨_, hx, rfl⟩
  refine codeAny_call_builtin PySem.F.slot_list_getattribute.plain PySem.F.entry_list_ga (PySem.F.slot_list_getattribute.check _ _ _ _ _ _ _ _ hT (PySem.F.args_list_getattribute_2 _ _) ?_)
  have f4 := bc_lookup
  have f5 : typeOf (.builtin "list.__contains__") = pure (.type "wrapper_descriptor") := bc_type
  have f6 := bc_slot.lookup
  have f7 := bc_noset
  have f8 := bc_nodel
  unfold Builtin.«object.__getattribute__»
  repeat (any_goals (first | assumption | wp_step))
  have hT5 : (⟨h, g, d, t, os⟩ : Shared).TypeIs (.builtin "list.__contains__") "wrapper_descriptor" := bc_type
  refine codeAny_call_builtin bc_slot.plain bc_entry (bc_slot.check _ _ _ _ _ _ _ _ hT5 (bc_args _ _ _) (bc_run hT ?_))
  exact wpAny_pure hq
theorem bc_get {Q : Value → Shared → Prop} (hl : Lst s.heap l xs) (hq : ∀ tk, Q (.ref s.heap.objs.size) { s with heap := s.heap.push (bcObj l), toks := tk }) :
    wpAny (model prog w) A (getAttr (.ref l) "__contains__" true) Q E s := by
  obtain ⟨⟨⟨cls, dict, data, sl⟩, ho, hc, n, hd⟩, hn⟩ := hl
  have hn := hn _ ho
  simp only at hc hd hn
  subst hc hd hn
  obtain ⟨h, g, d, t, os⟩ := s
  have hT : ∀ tk', (⟨h, g, d, tk', os⟩ : Shared).TypeIs (.ref l) "list" := fun _ => ⟨_, ho, rfl⟩
  have f2 := PySem.F.slot_list_getattribute.lookup
  have f3 := PySem.F.slot_list_getattribute.bind (.ref l)
  have f5 : typeLookup (.type "list") "__getattr__" = pure none := am_list_getattr_none
  unfold getAttr getAttrBy
  repeat (any_goals (first | assumption | exact hT _ | wp_step))
  refine bc_ga ho ?_
  exact wpAny_pure (hq _)

theorem bc_check (l : Addr) (v : Value) : checkBoundCall "list.__contains__" ⟨[.ref l, v], []⟩ = pure () := by first | kernel_rfl | rfl
theorem bc_keep {u : Addr} (h : Heap) (ho : h.get? u = some (bcObj l)) : ∃ k, (k = Keeper.frame ∨ k = Keeper.machine ∨ k = Keeper.boundFrame) ∧ Looks (model prog w) h (keeperOf (.ref u)) k :=
  ⟨.machine, .inr (.inl rfl), (Looks.ld (part := none) ho).andThen .now⟩
open Classical in
theorem bc_call {α : Type} (k : Kind α) {B : Led} {u : Addr} {v : Value} {x : α} {ys : List α} (ho : s.heap.get? u = some (bcObj l)) (hb : Has s.heap B) (hv : k.rel B v x) (hu : k.list.rel B (.ref l) ys) (d : Bool) (hd : d = true ↔ x ∈ ys) {Q : Value → Shared → Prop} (hA : A.units + (k.deep + 1) < cLine) (h : Q (.bool d) s) :
    wpAny (model prog w) A (call (.ref u) [v]) Q E s := by
  obtain ⟨b, ws, e, m', r'⟩ := hu
  cases e
  obtain ⟨⟨⟨cls, dd, data, sl⟩, hol, hc, n, hd'⟩, _⟩ := hb _ m'
  simp only at hc hd'
  subst hc hd'
  refine wpAny_call (codeAny_of_tree ?_)
  show wpAny _ A.in1 (callAny (.ref u) ⟨[v], []⟩) _ _ s
  simp only [callAny]
  refine wpAny_bind (wpAny_load ho ?_)
  simp only [bcObj]
  refine KFB.if_so (by decide) ?_
  refine KFB.if_so (by decide) ?_
  refine wpAny_bind (wpAny_of_eq (a := ()) (bc_check l v) ?_)
  refine wpAny_bind (wpAny_pure (wpAny_pure ?_))
  refine ⟨Code.quiet_builtin _ (by decide +kernel), codeAny_builtin PySem.F.entry_list_contains ?_⟩
  rw [Around.under_plainId (by decide +kernel) _]
  refine SeqAt.list_containsAt l ws.toArray n dd sl v (fun y => decide (k.rel B y x)) prog w A _ s ⟨hol, fun y hy => ?_, ?_⟩
  · obtain ⟨i, hi, rfl⟩ := List.mem_iff_getElem.mp (show y ∈ ws by simpa using hy)
    obtain ⟨z, ez, rz⟩ := r'.get (i := i) (List.getElem?_eq_getElem hi)
    refine k.eq hb rz hv (by simp; omega) _ ?_
    rw [decide_eq_true_eq]
    exact ⟨fun q => k.func hb rz q, fun q => q ▸ rz⟩
  · show Q (.bool _) s
    rw [show (ws.toArray.any fun y => decide (k.rel B y x)) = d from by rw [Bool.eq_iff_iff, any_mem k hb r', hd]]
    exact h
end
end Mine

end
section
open PySem PySem.W PyProof.Rows PySem.Calls
set_option Elab.async false
set_option autoImplicit false
set_option linter.unusedVariables false
set_option maxRecDepth 100000
namespace Mine

/-- the state with some objects hidden -/
def hid (s : Shared) (l : List Addr) : Shared := { s with heap := hideAll s.heap l }
theorem hid_nil (s : Shared) : hid s [] = s := rfl

/-- objects of a caller that a callee may change -/
def Own (h00 : Heap) (A : Around) (B : Led) (h : Heap) (Z : List (Addr × Obj)) : Prop := ∀ p ∈ Z, h.get? p.1 = some p.2 ∧ h00.get? p.1 = none ∧ p.1 ∉ frs A ∧ ∀ q ∈ B, q.1 ≠ p.1

section
variable {prog : Program} {w : World} {h00 : Heap} {mg mb : Str → Option Value} {A : Around} {B : Led} {s : Shared}
theorem Gl.hid (G : Gl h00 A s.heap) {Z : List (Addr × Obj)} (hZ : Own h00 A B s.heap Z) : Gl h00 A (hid s (Z.map (·.1))).heap := by
  refine ⟨fun b o e => hideAll_get _ (G.stay b o e) fun hm => ?_, G.stack, funFrames_hideAll G.frames fun env he a ha q => ?_⟩
  · obtain ⟨p, hp, rfl⟩ := List.mem_map.mp hm
    rw [(hZ p hp).2.1] at e; cases e
  · obtain ⟨p, hp, rfl⟩ := List.mem_map.mp ha
    exact (hZ p hp).2.2.1 (List.mem_filterMap.mpr ⟨env, he, q⟩)

/-- a call whose body may raise, with some objects in its own hands -/
theorem call_code {f : Addr} {fd : FuncData} {body : List Stmt} {vals : List Value} {binds : List (Str × Value)} {R : Result → Shared → Prop} (Z : List (Addr × Obj)) (e0 : Env0 h00 mg mb) (G : Gl h00 A s.heap) (hb : Has s.heap B) (hZ : Own h00 A B s.heap Z) (D : IsDef h00 f fd body) (hroom : A.depth < recursionLimit)
    (hbind : bindArgs fd ⟨vals, []⟩ = pure binds)
    (hkind : ∀ x ∈ binds, fd.scope.names.lookup x.1 = some .local ∨ (fd.scope.names.lookup x.1 = some .cell ∧ ((cellsFrom (s.heap.objs.size + 1) fd.scope.names []).lookup x.1).isSome = true))
    (h : ∀ s₁ L, s.heap.objs.size ≤ L → Fm h00 mg mb A B (hid s (Z.map (·.1))) (callEnvC fd L f) (bindL (callEnvC fd L f).kindOf binds fun _ => none) (bindC (callEnvC fd L f).kindOf binds fun _ => none) Z B s₁ →
      wpAny (model prog w) (A.deeper (callEnvC fd L f)) (execs body (callEnvC fd L f)) (fun fl s' => R (.ok (.ret (match fl with | .ret v => v | _ => .none))) s')
        (fun e s' => wpAny (model prog w) (A.deeper (callEnvC fd L f)) (leaving (callEnvC fd L f) e) (fun _ s'' => R (.error e) s'') (fun e' s'' => R (.error e') s'') s') s₁) :
    codeAny (model prog w) A (.call (.ref f) ⟨vals, []⟩) R s := by
  obtain ⟨o, ho, hd⟩ := D.obj
  refine codeAny_call_cells hroom (G.stay _ _ ho) hd (e0.lim.keeps G.stay) (D.code.keeps G.stay) D.body hbind D.clo hkind (fun s₁ x => ?_) D.co D.gen D.kind
  have hL : (callEnvC fd s.heap.objs.size f).locals = s.heap.objs.size := rfl
  have G' := G.hid hZ
  have hsz : (hid s (Z.map (·.1))).heap.objs.size = s.heap.objs.size := hideAll_size _ _
  have hnew : ∀ a, s.heap.objs.size ≤ a → (hid s (Z.map (·.1))).heap.get? a = none := fun a ha => Heap.get?_none_of_le (by rw [hsz]; exact ha)
  have keep : ∀ b o, (hid s (Z.map (·.1))).heap.get? b = some o → s₁.heap.get? b = some o := fun b o e => x.toInCall.keep b o (of_hideAll _ e)
  obtain ⟨h₁, tk, e⟩ := x.toInCall.same
  have hst : Stp A B (hid s (Z.map (·.1))) B s₁ := by
    refine ⟨⟨h₁, tk, by rw [e]; rfl⟩, .of_keeps keep, fun p hp => (hb p hp).keeps fun o q => x.toInCall.keep _ o q, fun _ h => h, fun _ h => .inl h⟩
  refine h s₁ _ (Nat.le_refl _) ⟨⟨e0, ⟨fun b o q => x.toInCall.keep b o (G.stay b o q), by simpa [Around.deeper] using G.stack, ?_⟩, x.toInCall.ns, x.cell, hst.has⟩, G', hst, x.apart, hnew _ (Nat.le_refl _), fun n c hc => ?_, rfl, fun p hp => ?_, fun p hp q hq => (hZ p hp).2.2.2 q hq⟩
  · obtain ⟨l, hl⟩ := Option.isSome_iff_exists.mp G.stack
    have e1 : (A.deeper (callEnvC fd s.heap.objs.size f)).frames.getD [] = callEnvC fd s.heap.objs.size f :: l := by simp [Around.deeper, hl]
    have e2 : A.frames.getD [] = l := by simp [hl]
    have h1 := G.frames
    rw [e2] at h1
    rw [e1]
    obtain ⟨oL, es, ep, hoL, hdL, _⟩ := x.toInCall.ns
    refine ⟨by rw [show (callEnvC fd s.heap.objs.size f).scope.kind = fd.scope.kind from rfl, D.kind]; decide, ⟨_, oL, rfl, ?_, hoL, fun vs q => by rw [hdL] at q; cases q⟩, h1.of_keeps fun b o q _ => ⟨o, x.toInCall.keep b o q, rfl⟩⟩
    cases q : h00.get? s.heap.objs.size with
    | none => rfl
    | some o' => exact absurd (Heap.lt_size (G.stay _ _ q)) (Nat.lt_irrefl _)
  · have := x.above n c (mem_of_lookup hc)
    exact ⟨hnew c (Nat.le_of_lt (hL ▸ this)), Nat.ne_of_gt this⟩
  · have lt := Heap.lt_size (hZ p hp).1
    refine ⟨x.toInCall.keep _ _ (hZ p hp).1, Nat.ne_of_lt (hL ▸ lt), fun n c hc q => ?_, hideAll_none _ (List.mem_map.mpr ⟨p, hp, rfl⟩)⟩
    have := x.above n c (mem_of_lookup hc)
    rw [hL] at this
    exact absurd (q ▸ lt) (Nat.not_lt.mpr (Nat.le_of_lt this))
end
end Mine

end
section
open PySem PySem.W PyProof.Rows PySem.Calls
set_option Elab.async false
set_option autoImplicit false
set_option linter.unusedVariables false
set_option maxRecDepth 100000
namespace Mine

/-! the lower part of a heap -/
def cut (h : Heap) (n : Nat) : Heap := { h with objs := h.objs.extract 0 n }
theorem cut_size (h : Heap) (n : Nat) : (cut h n).objs.size ≤ n := by simp [cut]; omega
theorem cut_lt {h : Heap} {n a : Nat} (ha : a < n) : (cut h n).get? a = h.get? a := by
  unfold Heap.get? cut
  have : (h.objs.extract 0 n)[a]? = h.objs[a]? := by
    rw [Array.getElem?_extract]; simp; omega
  simp only [this]
theorem cut_ge {h : Heap} {n a : Nat} (ha : n ≤ a) : (cut h n).get? a = none := Heap.get?_none_of_le (Nat.le_trans (cut_size h n) ha)
theorem cut_of {h : Heap} {n a : Nat} {o : Obj} (e : (cut h n).get? a = some o) : h.get? a = some o := by
  by_cases ha : a < n
  · rwa [cut_lt ha] at e
  · rw [cut_ge (Nat.not_lt.mp ha)] at e; cases e

/-- the objects above a place, but one -/
def above (h : Heap) (L x : Nat) : List (Addr × Obj) := (List.range h.objs.size).filterMap fun b => if L < b ∧ b ≠ x then (h.get? b).map fun o => (b, o) else none
theorem above_mem {h : Heap} {L x : Nat} {p : Addr × Obj} (hp : p ∈ above h L x) : h.get? p.1 = some p.2 ∧ L < p.1 ∧ p.1 ≠ x := by
  obtain ⟨b, _, e⟩ := List.mem_filterMap.mp hp
  split at e
  · rename_i hb
    obtain ⟨o, ho, rfl⟩ := Option.map_eq_some_iff.mp e
    exact ⟨ho, hb⟩
  · cases e
theorem mem_above {h : Heap} {L x b : Nat} {o : Obj} (ho : h.get? b = some o) (hb : L < b) (hx : b ≠ x) : (b, o) ∈ above h L x :=
  List.mem_filterMap.mpr ⟨b, List.mem_range.mpr (Heap.lt_size ho), by rw [if_pos ⟨hb, hx⟩, ho]; rfl⟩

section
variable {h00 : Heap} {mg mb : Str → Option Value} {A₀ : Around} {B₀ : Led} {s₀ : Shared} {env : Env} {m cm : Str → Option Value} {Z : List (Addr × Obj)} {B : Led} {s : Shared}
/-- an own object has been changed; all others but the frame's own stand -/
theorem Fm.but2 {x : Addr} {ox ox' : Obj} (F : Fm h00 mg mb A₀ B₀ s₀ env m cm ((x, ox) :: Z) B s) (hZ : x ∉ Z.map (·.1)) {h' : Heap} {tk : Nat} {m' : Str → Option Value} (hs : ∀ b o, b ≠ x → b ≠ env.locals → s.heap.get? b = some o → h'.get? b = some o)
    (hns : h'.Ns env.locals m') (hx : h'.get? x = some ox') : Fm h00 mg mb A₀ B₀ s₀ env m' cm ((x, ox') :: Z) B { s with heap := h', toks := tk } := by
  obtain ⟨p1, p2, p3, p4⟩ := F.pin _ (.head _)
  have ob := F.offB _ (.head _)
  have hB' : Has h' B := fun q hq => (F.rd.has q hq).keeps fun o e => hs _ o (ob q hq) (F.offNs hq F.rd.ns) e
  have ne0 : ∀ b o, s₀.heap.get? b = some o → b ≠ x ∧ b ≠ env.locals := fun b o e => ⟨(fun q => by rw [q, p4] at e; cases e), (fun q => by rw [q, F.newL] at e; cases e)⟩
  have kp0 : Kp (frs A₀) s₀.heap h' := by
    refine ⟨fun b o hb e => hs b o (ne0 b o e).1 (ne0 b o e).2 (F.stp.kp.keep b o hb e), fun b o e => ?_⟩
    obtain ⟨sl, e'⟩ := F.stp.kp.slot b o e
    exact ⟨sl, hs b _ (ne0 b o e).1 (ne0 b o e).2 e'⟩
  have st : h00.StaysIn h' := fun b o e => by
    refine hs b o (fun q => ?_) (fun q => ?_) (F.rd.gl.stay b o e)
    · rw [q, F.new00 p4] at e; cases e
    · rw [q, F.new00 F.newL] at e; cases e
  refine ⟨⟨F.rd.e0, ⟨st, F.rd.gl.stack, ?_⟩, hns, fun n c hc => ?_, hB'⟩, F.gl0, ?_, F.apart, F.newL, F.newC, F.frame, fun p hp' => ?_, fun p hp' => ?_⟩
  · have h1 := F.rd.gl.frames
    obtain ⟨l, hl⟩ := Option.isSome_iff_exists.mp F.gl0.stack
    have e1 : (A₀.deeper env).frames.getD [] = env :: l := by simp [Around.deeper, hl]
    have e2 : A₀.frames.getD [] = l := by simp [hl]
    rw [e1] at h1 ⊢
    obtain ⟨hk, ⟨L, o, hf, hn', ho, hd⟩, hr⟩ := h1
    obtain ⟨oL, es, ep, hoL, hdL, _⟩ := hns
    refine ⟨hk, ⟨env.locals, oL, F.frame, ?_, hoL, fun vs q => by rw [hdL] at q; cases q⟩, ?_⟩
    · rw [F.frame] at hf; cases hf; exact hn'
    · have h0 := F.gl0.frames
      rw [e2] at h0
      exact kp0.funFrames h0
  · obtain ⟨oc, hoc, hdc⟩ := F.rd.cell n c hc
    exact ⟨oc, hs c oc (fun q => p3 n c hc q.symm) (F.newC n c hc).2 hoc, hdc⟩
  · obtain ⟨⟨h₁, t₁, e1⟩, k1, a1, b1, c1⟩ := F.stp
    exact ⟨⟨h', tk, by rw [e1]⟩, kp0, hB', b1, c1⟩
  · rcases List.mem_cons.mp hp' with rfl | hp
    · exact ⟨hx, p2, p3, p4⟩
    · obtain ⟨h1, h2, h3, h4⟩ := F.pin p (.tail _ hp)
      exact ⟨hs _ _ (fun e => hZ (List.mem_map.mpr ⟨p, hp, e⟩)) h2 h1, h2, h3, h4⟩
  · rcases List.mem_cons.mp hp' with rfl | hp
    · exact ob
    · exact F.offB p (.tail _ hp)
end

section
variable {prog : Program} {w : World} {h00 : Heap} {mg mb : Str → Option Value} {A₀ A : Around} {B₀ : Led} {s₀ : Shared} {env : Env} {m cm : Str → Option Value} {Z : List (Addr × Obj)} {B : Led} {s : Shared} {K : Frag} {x C p : Addr} {ox ox' od : Obj} {name : Str} {v : Value} {i : Nat} {E : Value → Shared → Prop}
theorem getslot {expr : Bool} {Q : Value → Shared → Prop} (X : K.In s.heap) (I : InstAt s.heap x ox C (some od)) (hg : plainGet K C name = true) (hc : isClsIn K C = true)
    (ha : findIn K (.ref C) name = some (some (.ref p))) (hn : specialIn K (.ref p) "__get__" = some (some (.builtin "member_descriptor.__get__"))) (ht : takesIn K (.ref p) = some true) (hp : slotIn K p C = some i)
    (hv : (ox.slots[i]?).join = some v) (hh : handedIn v = true) (h : ∀ tk, Q v { s with toks := tk }) : wpAny (model prog w) A (getAttr (.ref x) name expr) Q E s :=
  get_bind X I (plainGet_of hg).1 (findObj_data hc ha hn ht) (plainGet_of hg).2 (wpAny_call (slot_get (s := { s with toks := s.toks + 1 }) X I hp hv (handed_on hh (h _))))

theorem Fm.setslot {Q : Unit → Shared → Prop} (F : Fm h00 mg mb A₀ B₀ s₀ env m cm ((x, ox) :: Z) B s) (hZ : x ∉ Z.map (·.1)) (X : K.In s.heap) (I : InstAt s.heap x ox C (some od))
    (hs : findIn K (.ref C) "__setattr__" = some (some (.builtin "object.__setattr__"))) (hp : plainOver K C = true) (ht : takerIn K C name = some (some (.ref p))) (hT : typeIn K (.ref p) = some (.type "member_descriptor")) (hi : slotIn K p C = some i) (hz : i < 1000)
    (e : { ox with slots := (ox.slots ++ Array.replicate (i + 1 - ox.slots.size) none).setIfInBounds i (some v) } = ox') (hf : ox'.isFreed = false)
    (h : ∀ s', Fm h00 mg mb A₀ B₀ s₀ env m cm ((x, ox') :: Z) B s' → Q () s') : wpAny (model prog w) A (setAttr (.ref x) name v) Q E s := by
  obtain ⟨p1, p2, p3, p4⟩ := F.pin _ (.head _)
  have Fr0 : Fr (hideAll (cut s.heap env.locals) [x]) env.locals s.heap m := ⟨F.rd.ns, fun b o q => cut_of (of_hideAll _ q), by rw [hideAll_size]; exact cut_size _ _⟩
  have N0 : News (hideAll (cut s.heap env.locals) [x]) env.locals s.heap ([] ++ (x, ox) :: above s.heap env.locals x) := fun q hq => by
    rcases List.mem_cons.mp hq with rfl | hq
    · exact ⟨p1, p2, hideAll_none _ (.head _)⟩
    · obtain ⟨a, b, c⟩ := above_mem hq
      refine ⟨a, fun e => Nat.lt_irrefl _ (e ▸ b), ?_⟩
      cases q' : (hideAll (cut s.heap env.locals) [x]).get? q.1 with
      | none => rfl
      | some o => have := of_hideAll _ q'; rw [cut_ge (Nat.le_of_lt b)] at this; cases this
  refine set_plain X I hs (osa_descr (s := { s with toks := s.toks + 1 }) KF.slot_mset X I hp ht hT (slot_set (s := { s with toks := s.toks + 1 }) Fr0 N0 X I hi hz (fun _ h => (nomatch h)) (fun q hq => (above_mem hq).2.2) e hf fun h' F' N' => ?_))
  refine h _ (F.but2 hZ (fun b o hb hL q => ?_) F'.ns (N' _ (.head _)).1)
  rcases Nat.lt_or_ge b env.locals with hlt | hge
  · exact F'.keep b o (hideAll_get _ ((cut_lt hlt).trans q) (by simpa using hb))
  · exact (N' _ (.tail _ (mem_above q (Nat.lt_of_le_of_ne hge (Ne.symm hL)) hb))).1
end
end Mine

end
section
open PySem PySem.W PyProof.Rows PySem.Calls
set_option Elab.async false
set_option autoImplicit false
set_option linter.unusedVariables false
set_option maxRecDepth 100000
namespace Mine
section
variable {prog : Program} {w : World} {A : Around} {E : Value → Shared → Prop} {s : Shared}
theorem iter_list {l : Addr} {items : Array Value} {Q : Value → Shared → Prop} (hl : s.heap.IsList l items)
    (hQ : Q (.ref s.heap.objs.size) { s with heap := s.heap.push { cls := .type "list_iterator", data := .fields #[.ref l, .int 0 0] } }) : wpAny (model prog w) A (call (.builtin "iter") [.ref l]) Q E s := by
  refine call_function_entry (by decide +kernel) (by decide +kernel) kdk_entry_iter (kdk_args_iter _) ?_
  unfold Builtin.«iter»
  refine wpAny_bind (m := someArgs "iter" 1 2 _) (wpAny_of_eq (a := [Value.ref l]) (by first | rfl | kernel_rfl) ?_)
  exact wpAny_bind (wpAny_pyIter_list hl (wpAny_pure ⟨_, rfl, hQ⟩))

theorem next_item {it l : Addr} {i : Nat} {items : Array Value} {x : Value} {Q : Value → Shared → Prop} (hit : s.heap.IsListIter it l i) (hl : s.heap.IsList l items) (hx : items[i]? = some x)
    (hQ : ∀ h', h'.IsListIter it l (i + 1) → Heap.SameBut it s.heap h' → Q x { s with heap := h' }) : wpAny (model prog w) A (call (.builtin "next") [.ref it]) Q E s := by
  obtain ⟨o, ho, hc, hd⟩ := id hit
  obtain ⟨ol, hol, _, nl, hdl⟩ := hl
  refine call_function_entry (by decide +kernel) (by decide +kernel) kdk_entry_next (kdk_args_next _) ?_
  unfold Builtin.«next»
  refine wpAny_bind (m := someArgs "next" 1 2 _) (wpAny_of_eq (a := [Value.ref it]) (by first | rfl | kernel_rfl) ?_)
  dsimp only
  refine wpAny_bind (wpAny_specialOf (name := Str.ofString "__next__") hit.typeIs slot_listiter_next.lookup ?_)
  refine wpAny_ite_split (fun hab => absurd hab (by decide)) (fun _ => ?_)
  refine wpAny_bind (wpAny_callSpecial?_slot (name := Str.ofString "__next__") hit.typeIs slot_listiter_next
    (wpAny_call_entry slot_listiter_next hit.typeIs entry_listiter_next ?_ (args_listiter_next _)))
  show wpAny _ _ (field (.ref it) 0 >>= _) _ _ s
  refine wpAny_bind (wpAny_field ho hd (x := .ref l) rfl ?_)
  show wpAny _ _ (if (Value.ref l == Value.none) = true then _ else _) _ _ s
  rw [if_neg (show ¬ ((Value.ref l == Value.none) = true) from Bool.false_ne_true)]
  show wpAny _ _ (field (.ref it) 1 >>= _) _ _ s
  refine wpAny_bind (wpAny_field ho hd (x := .int i 0) rfl ?_)
  show wpAny _ _ (seqItems? (.ref l) >>= _) _ _ s
  refine wpAny_bind (wpAny_seqItems hol hdl ?_)
  simp only [Int.toNat_natCast, hx]
  refine wpAny_bind (wpAny_setField ho hd (by simp) (wpAny_pure ⟨x, rfl, wpAny_pure ⟨_, rfl, hQ _ ?_ (Heap.SameBut.update ..)⟩⟩))
  exact ⟨_, Heap.get?_update_self _ ho (Obj.isFreed_of_fields (Obj.data_mapFields hd _)), (Obj.cls_mapFields ..).trans hc, by
    rw [Obj.data_mapFields hd]; simp [rawInt]⟩

/-- the iterator is at its end: StopIteration is raised -/
theorem next_stop {it l : Addr} {i : Nat} {items : Array Value} {Q : Value → Shared → Prop} (hh : A.handled = none) (hit : s.heap.IsListIter it l i) (hl : s.heap.IsList l items) (hx : items[i]? = none)
    (hE : ∀ h₁ o' e oe vs t h', Heap.SameBut it s.heap h₁ → h₁.get? it = some o' → (∀ xs n, o'.data ≠ .seq xs n) → (∀ b o, h₁.get? b = some o → h'.get? b = some o) → h₁.get? e = none → h'.get? e = some oe → oe.cls = .type "StopIteration" → oe.data = .fields vs → vs[1]? = some .none → vs[0]? = some (.ref t) → E (.ref e) { s with heap := h' }) :
    wpAny (model prog w) A (call (.builtin "next") [.ref it]) Q E s := by
  obtain ⟨o, ho, hc, hd⟩ := id hit
  obtain ⟨ol, hol, _, nl, hdl⟩ := hl
  refine call_function_entry (by decide +kernel) (by decide +kernel) kdk_entry_next (kdk_args_next _) ?_
  unfold Builtin.«next»
  refine wpAny_bind (m := someArgs "next" 1 2 _) (wpAny_of_eq (a := [Value.ref it]) (by first | rfl | kernel_rfl) ?_)
  dsimp only
  refine wpAny_bind (wpAny_specialOf (name := Str.ofString "__next__") hit.typeIs slot_listiter_next.lookup ?_)
  refine wpAny_ite_split (fun hab => absurd hab (by decide)) (fun _ => ?_)
  refine wpAny_bind (wpAny_callSpecial?_slot (name := Str.ofString "__next__") hit.typeIs slot_listiter_next
    (wpAny_call_entry slot_listiter_next hit.typeIs entry_listiter_next ?_ (args_listiter_next _)))
  show wpAny _ _ (field (.ref it) 0 >>= _) _ _ s
  refine wpAny_bind (wpAny_field ho hd (x := .ref l) rfl ?_)
  show wpAny _ _ (if (Value.ref l == Value.none) = true then _ else _) _ _ s
  rw [if_neg (show ¬ ((Value.ref l == Value.none) = true) from Bool.false_ne_true)]
  show wpAny _ _ (field (.ref it) 1 >>= _) _ _ s
  refine wpAny_bind (wpAny_field ho hd (x := .int i 0) rfl ?_)
  show wpAny _ _ (seqItems? (.ref l) >>= _) _ _ s
  refine wpAny_bind (wpAny_seqItems hol hdl ?_)
  simp only [Int.toNat_natCast, hx]
  refine wpAny_bind (wpAny_rule (wpAny_bind (wpAny_setField ho hd (by simp) ?_)))
  show wpAny _ _ (newExc (.type "StopIteration") [] >>= _) _ _ _
  refine wpAny_bind ?_
  simp only [newExc, newTuple]
  refine wpAny_bind (wpAny_newObj_type ?_ (by size_fits))
  refine wpAny_bind (m := firstArgMember _ _) (wpAny_of_eq (a := Value.none) (by first | rfl | (simp only [firstArgMember]; rfl)) ?_)
  refine wpAny_newObj_type ?_ (by size_fits)
  simp only [raiseNew]
  refine wpAny_bind (wpAny_handled ?_)
  rw [show A.in1.in1.handled = none from hh]
  refine wpAny_bind (wpAny_pure (wpAny_throw ?_))
  refine hE _ _ _ _ _ _ _ (Heap.SameBut.update ..) (Heap.get?_update_self _ ho (Obj.isFreed_of_fields (Obj.data_mapFields hd _))) (fun xs n q => ?_) (fun b o e => Heap.get?_push_of_some _ (Heap.get?_push_of_some _ e)) ?_ (Heap.get?_push_size _ rfl) rfl rfl rfl rfl
  · rw [Obj.data_mapFields hd] at q; cases q
  · refine Heap.get?_none_of_le ?_
    rw [Heap.size_push]; exact Nat.le_succ _
end
end Mine

end
section
open PySem PySem.W PyProof.Rows PySem.Calls
set_option Elab.async false
set_option autoImplicit false
set_option linter.unusedVariables false
set_option maxRecDepth 100000
namespace Mine

abbrev fdM (c i : Nat) (qual : Str) (dV kwd : Value) (ann : Option Addr) (pm cd doc : Value) : FuncData := fdOf (inOf (topOf c) i) qual dV kwd ann pm cd doc
/-- a method of the text -/
def IsMeth (h00 : Heap) (f : Addr) (c i : Nat) (qual : Str) (dV : Value) : Prop := ∃ kwd ann pm cd doc, kwd = Value.none ∧ IsDef h00 f (fdM c i qual dV kwd ann pm cd doc) (dBody (inOf (topOf c) i))

structure FF (h00 : Heap) (K : Frag) (C fI fT fN p₁ p₀ : Addr) : Prop where
  X : K.In h00
  mks : makesIn K C = true
  init : findIn K (.ref C) "__init__" = some (some (.ref fI))
  initF : typeIn K (.ref fI) = some (.type "function")
  iter : findIn K (.ref C) "__iter__" = some (some (.ref fT))
  iterF : isFn K (.ref fT) = true
  next : findIn K (.ref C) "__next__" = some (some (.ref fN))
  nextF : isFn K (.ref fN) = true
  len : findIn K (.ref C) "__len__" = some none
  hint : findIn K (.ref C) "__length_hint__" = some none
  sa : findIn K (.ref C) "__setattr__" = some (some (.builtin "object.__setattr__"))
  po : plainOver K C = true
  cls : isClsIn K C = true
  pg₁ : plainGet K C "_it" = true
  fi₁ : findIn K (.ref C) "_it" = some (some (.ref p₁))
  sp₁ : specialIn K (.ref p₁) "__get__" = some (some (.builtin "member_descriptor.__get__"))
  tk₁ : takesIn K (.ref p₁) = some true
  sl₁ : slotIn K p₁ C = some 1
  ta₁ : takerIn K C "_it" = some (some (.ref p₁))
  ty₁ : typeIn K (.ref p₁) = some (.type "member_descriptor")
  pg₀ : plainGet K C "_func" = true
  fi₀ : findIn K (.ref C) "_func" = some (some (.ref p₀))
  sp₀ : specialIn K (.ref p₀) "__get__" = some (some (.builtin "member_descriptor.__get__"))
  tk₀ : takesIn K (.ref p₀) = some true
  sl₀ : slotIn K p₀ C = some 0
  ta₀ : takerIn K C "_func" = some (some (.ref p₀))
  ty₀ : typeIn K (.ref p₀) = some (.type "member_descriptor")
  dI : IsMeth h00 fI 2 1 "filterfalse.__init__" .none
  dT : IsMeth h00 fT 2 2 "filterfalse.__iter__" .none
  dN : IsMeth h00 fN 2 3 "filterfalse.__next__" .none

abbrev lit (l : Addr) (i : Nat) : Obj := { cls := .type "list_iterator", data := .fields #[.ref l, .int (i : Nat) 0] }
abbrev ffObj (C dx : Addr) (M : Value) (I : Addr) : Obj := { cls := .ref C, dict := some dx, data := .plain, slots := #[some M, some (.ref I)] }

theorem inst_ff {h : Heap} {C x dx : Addr} {sl : Array (Option Value)} (hx : h.get? x = some { cls := .ref C, dict := some dx, data := .plain, slots := sl }) (hd : h.get? dx = some emptyDict) : InstAt h x { cls := .ref C, dict := some dx, data := .plain, slots := sl } C (some emptyDict) :=
  ⟨hx, rfl, rfl, hd⟩

/-- more known names -/
structure Nm2 (mg mb : Str → Option Value) : Prop where
  iter : mg "iter" = none ∧ mb "iter" = some (.builtin "iter")
  next : mg "next" = none ∧ mb "next" = some (.builtin "next")
  bool : mg "bool" = none ∧ mb "bool" = some (.type "bool")
  list : mg "list" = none ∧ mb "list" = some (.type "list")

section
variable {prog : Program} {w : World} {h00 : Heap} {mg mb : Str → Option Value} {A : Around} {B : Led} {s : Shared} {K : Frag} {C fI fT fN p₁ p₀ x dx l : Addr} {M : Value}
theorem ff_init {vs : List Value} {R : Result → Shared → Prop} (T : FF h00 K C fI fT fN p₁ p₀) (N : Nm2 mg mb) (e0 : Env0 h00 mg mb) (G : Gl h00 A s.heap) (hb : Has s.heap B) (hroom : A.depth < recursionLimit) (hl : (l, vs) ∈ B)
    (hZ : Own h00 A B s.heap [(x, instObj C dx), (dx, emptyDict)]) (hne : x ≠ dx)
    (hR : ∀ s' I, Stp A B (hid s [x, dx]) B s' → s'.heap.get? x = some (ffObj C dx M I) → s'.heap.get? dx = some emptyDict → s'.heap.get? I = some (lit l 0) → s.heap.get? I = none → I ≠ x → I ≠ dx → R (.ok (.ret (.ref x))) s') :
    codeAny (model prog w) A (.call (.ref fI) ⟨[.ref x, M, .ref l], []⟩) (InitBack x R) s := by
  obtain ⟨kwd, ann, pm, cd, doc, rfl, D⟩ := T.dI
  refine call_code (mg := mg) (mb := mb) (binds := [("self", .ref x), ("function", M), ("iterable", .ref l)]) [(x, instObj C dx), (dx, emptyDict)] e0 G hb hZ D hroom (by with_unfolding_all rfl) ?_ fun s₁ L hL F => ?_
  · intro x hx
    simp only [List.mem_cons, List.not_mem_nil, or_false] at hx
    rcases hx with rfl | rfl | rfl <;> exact .inl (by rfl)
  have h1 : (bindL (callEnvC (fdM 2 1 "filterfalse.__init__" .none .none ann pm cd doc) L fI).kindOf [("self", .ref x), ("function", M), ("iterable", .ref l)] fun _ => none) "self" = some (.ref x) := by rfl
  have h2 : (bindL (callEnvC (fdM 2 1 "filterfalse.__init__" .none .none ann pm cd doc) L fI).kindOf [("self", .ref x), ("function", M), ("iterable", .ref l)] fun _ => none) "function" = some M := by rfl
  have h3 : (bindL (callEnvC (fdM 2 1 "filterfalse.__init__" .none .none ann pm cd doc) L fI).kindOf [("self", .ref x), ("function", M), ("iterable", .ref l)] fun _ => none) "iterable" = some (.ref l) := by rfl
  generalize (bindL (callEnvC (fdM 2 1 "filterfalse.__init__" .none .none ann pm cd doc) L fI).kindOf [("self", .ref x), ("function", M), ("iterable", .ref l)] fun _ => none) = m at F h1 h2 h3
  refine wpAny_execs_cons (plainObj_wpAny_Assign_Attribute ?_)
  refine callB1 (fun Q' hq => F.rd.name_b N.iter.1 N.iter.2 hq) ?_
  refine F.rd.name_l h3 ?_
  refine iter_list (F.rd.has _ hl).1 ?_
  have F₁ := F.push (o := lit l 0) rfl
  refine F₁.rd.name_l h1 ?_
  have nI : ∀ b o, s₁.heap.get? b = some o → s₁.heap.objs.size ≠ b := fun b o e => Nat.ne_of_gt (Heap.lt_size e)
  have Ix : s₁.heap.objs.size ≠ x := nI _ _ (F.pin _ (.head _)).1
  have Id : s₁.heap.objs.size ≠ dx := nI _ _ (F.pin _ (.tail _ (.head _))).1
  have F₂ := F₁.sub (Z' := [(x, instObj C dx), (s₁.heap.objs.size, lit l 0), (dx, emptyDict)]) (by simp)
  refine F₂.setslot (C := C) (p := p₁) (i := 1) (od := emptyDict) (ox' := { cls := .ref C, dict := some dx, data := .plain, slots := #[none, some (.ref s₁.heap.objs.size)] }) ?_ (T.X.keeps F₂.rd.gl.stay) (inst_ff (F₂.pin _ (.head _)).1 (F₂.pin _ (.tail _ (.tail _ (.head _)))).1) T.sa T.po T.ta₁ T.ty₁ T.sl₁ (by decide) (by rfl) rfl fun s₂ F₃ => ?_
  · simp only [List.map_cons, List.map_nil, List.mem_cons, List.not_mem_nil, or_false, not_or]
    exact ⟨fun e => Ix e.symm, hne⟩
  dsimp only
  refine wpAny_execs_cons (plainObj_wpAny_Assign_Attribute ?_)
  refine F₃.rd.name_l h2 ?_
  refine F₃.rd.name_l h1 ?_
  refine F₃.setslot (C := C) (p := p₀) (i := 0) (od := emptyDict) (ox' := ffObj C dx M s₁.heap.objs.size) ?_ (T.X.keeps F₃.rd.gl.stay) (inst_ff (F₃.pin _ (.head _)).1 (F₃.pin _ (.tail _ (.tail _ (.head _)))).1) T.sa T.po T.ta₀ T.ty₀ T.sl₀ (by decide) (by rfl) rfl fun s₃ F₄ => ?_
  · simp only [List.map_cons, List.map_nil, List.mem_cons, List.not_mem_nil, or_false, not_or]
    exact ⟨fun e => Ix e.symm, hne⟩
  dsimp only
  refine wpAny_execs_nil ?_
  refine ⟨rfl, hR _ s₁.heap.objs.size F₄.stp (F₄.pin _ (.head _)).1 (F₄.pin _ (.tail _ (.tail _ (.head _)))).1 (F₄.pin _ (.tail _ (.head _))).1 ?_ Ix Id⟩
  have hn := (F₄.pin (s₁.heap.objs.size, lit l 0) (.tail _ (.head _))).2.2.2
  cases q : s.heap.get? s₁.heap.objs.size with
  | none => rfl
  | some o =>
    have := (hideAll_get [x, dx] q (by simp [Ix, Id]))
    have hn' : (hideAll s.heap [x, dx]).get? s₁.heap.objs.size = none := hn
    rw [hn'] at this; cases this
end
end Mine

end
section
open PySem PySem.W PyProof.Rows PySem.Calls
set_option Elab.async false
set_option autoImplicit false
set_option linter.unusedVariables false
set_option maxRecDepth 100000
namespace Mine
theorem frs_of {A A' : Around} (e : A.frames = A'.frames) : frs A = frs A' := by unfold frs; rw [e]
theorem Stp.around {A A' : Around} {B B' : Led} {s s' : Shared} (x : Stp A B s B' s') (e : A.frames = A'.frames) : Stp A' B s B' s' :=
  ⟨x.same, frs_of e ▸ x.kp, x.has, x.sub, x.new⟩
theorem Gl.around {h00 h : Heap} {A A' : Around} (G : Gl h00 A h) (e : A.frames = A'.frames) : Gl h00 A' h := ⟨G.stay, e ▸ G.stack, by have := G.frames; rwa [e] at this⟩

/-- hidden objects that are new anyway -/
theorem Stp.unhid {A : Around} {B B' : Led} {s s₁ s' : Shared} {l : List Addr} (same : ∃ h tk, s₁ = { s with heap := h, toks := tk }) (k : ∀ b o, s.heap.get? b = some o → s₁.heap.get? b = some o) (hn : ∀ a ∈ l, s.heap.get? a = none) (y : Stp A B (hid s₁ l) B' s') : Stp A B s B' s' := by
  obtain ⟨h₁, t₁, rfl⟩ := same
  obtain ⟨⟨h₂, t₂, e⟩, k2, a2, b2, c2⟩ := y
  have kk : ∀ b o, s.heap.get? b = some o → (hideAll h₁ l).get? b = some o := fun b o e => hideAll_get l (k b o e) fun hm => by rw [hn b hm] at e; cases e
  refine ⟨⟨h₂, t₂, by rw [e]; rfl⟩, (Kp.of_keeps kk).trans k2, a2, b2, fun p hp => (c2 p hp).imp id fun h => ?_⟩
  cases q : s.heap.get? p.1 with
  | none => rfl
  | some o => have := kk _ _ q; have h' : (hideAll h₁ l).get? p.1 = none := h; rw [h'] at this; cases this

section
variable {M : Model} {h00 : Heap} {A₀ : Around} {env : Env} {B : Led} {s₁ : Shared} {E : Value → Shared → Prop} {Q : Unit → Shared → Prop}
/-- a new exception leaves its first frame -/
theorem leave_new {h' : Heap} {tk : Nat} {e t : Addr} {oe : Obj} {vs : Array Value} {X : String} (G : Gl h00 (A₀.deeper env) s₁.heap) (hst : A₀.frames.isSome = true) (hb : Has s₁.heap B) (hf : env.frame = some env.locals) (keeps : ∀ b o, s₁.heap.get? b = some o → h'.get? b = some o) (new : s₁.heap.get? e = none)
    (he : h'.get? e = some oe) (hc : oe.cls = .type X) (hd : oe.data = .fields vs) (h1 : vs[1]? = some .none) (h0 : vs[0]? = some (.ref t))
    (h : ∀ base h'', Stp (A₀.deeper env) B s₁ B { s₁ with heap := h'', toks := tk } → Heap.FlyingW base (A₀.frames.getD []) e (.type X) (.ref t) h'' → Heap.UpToSlots h' h'' → (∃ o, h''.get? e = some o ∧ o.cls = .type X) → (∀ b o, b ∉ frs (A₀.deeper env) → s₁.heap.get? b = some o → base.get? b = some o) → Q () { s₁ with heap := h'', toks := tk }) :
    wpAny M (A₀.deeper env) (leaving env (.ref e)) Q E { s₁ with heap := h', toks := tk } := by
  obtain ⟨outer, ho⟩ := Option.isSome_iff_exists.mp hst
  have hfr : (A₀.deeper env).frames = some (env :: outer) := by simp [Around.deeper, ho]
  have hG := G.frames
  rw [hfr] at hG
  have hin : ∀ env' ∈ (env :: outer), ∀ b, env'.frame = some b → b ∈ frs (A₀.deeper env) := fun env' he b hb => by
    unfold frs; rw [hfr]; exact List.mem_filterMap.mpr ⟨env', he, hb⟩
  have hfl := (funFrames_hide (as := frs (A₀.deeper env)) hG hin).of_keeps fun b o hb _ => ⟨o, keeps b o hb, rfl⟩
  have st : (hideAll s₁.heap (frs (A₀.deeper env))).StaysIn h' := fun b o q => keeps b o (of_hideAll _ q)
  have hne : (hideAll s₁.heap (frs (A₀.deeper env))).get? e = none := by
    cases q : (hideAll s₁.heap (frs (A₀.deeper env))).get? e with
    | none => rfl
    | some o => have := of_hideAll _ q; rw [new] at this; cases this
  refine wpAny_leaving_firstW (a0 := .ref t) hfr hfl hf he st hne hd h1 h0 fun h'' hL => ?_
  obtain ⟨k1, k2, k3, k4⟩ := hL
  rw [hc] at k3
  have kp : Kp (frs (A₀.deeper env)) s₁.heap h'' := by
    refine ⟨fun b o hb e => k1 b o (hideAll_get _ e hb), fun b o q => ?_⟩
    by_cases hb : b ∈ frs (A₀.deeper env)
    · obtain ⟨_, o', ho', hnf⟩ := G.frames.mem hb
      rw [q] at ho'; cases ho'
      exact k4 b o (keeps b o q) hnf
    · exact ⟨o.slots, k1 b o (hideAll_get _ q hb)⟩
  refine h (hideAll s₁.heap (frs (A₀.deeper env))) h'' ⟨⟨_, _, rfl⟩, kp, kp.has hb, fun _ h => h, fun _ h => .inl h⟩ ⟨k1, hne, ?_, k3⟩ k4 ?_ fun b o hb q => hideAll_get _ q hb
  · rw [ho]; exact k2.2.2
  · obtain ⟨oe', _, _, _, _, he', hc', _⟩ := k3
    exact ⟨oe', he', hc'.1⟩
end
end Mine

end
section
open PySem PySem.W PyProof.Rows PySem.Calls
set_option Elab.async false
set_option autoImplicit false
set_option linter.unusedVariables false
set_option maxRecDepth 100000
namespace Mine
def IsLit (o : Obj) (l : Addr) (i : Nat) : Prop := o.cls = .type "list_iterator" ∧ o.data = .fields #[.ref l, .int (i : Nat) 0]
theorem IsLit.at {h : Heap} {I l : Addr} {o : Obj} {i : Nat} (e : IsLit o l i) (ho : h.get? I = some o) : h.IsListIter I l i := ⟨o, ho, e.1, e.2⟩
theorem len_lt' {α : Type} {xs : List α} {i : Nat} {x : α} (h : xs[i]? = some x) : i < xs.length := (List.getElem?_eq_some_iff.mp h).1

section
variable {prog : Program} {w : World} {A : Around} {E : Value → Shared → Prop} {s : Shared} {K : Frag} {x C f : Addr} {ox : Obj} {od : Option Obj}
theorem own_next {Q : Option Value → Shared → Prop} (X : K.In s.heap) (I : InstAt s.heap x ox C od) (hs : findIn K (.ref C) "__next__" = some (some (.ref f))) (hf : isFn K (.ref f) = true)
    (h : wpAny (model prog w) A (call (.ref f) [.ref x]) (fun v s' => Q (some v) s') (fun e s' => s'.TypeIs e "StopIteration" ∧ Q none s') s) : wpAny (model prog w) A (pyNext (.ref x)) Q E s := by
  unfold pyNext
  refine wpAny_bind (wpAny_attempt (special_fn (name := "__next__") (args := []) X I hs (beq_iff_eq.mp hf) (wpAny_mono h (fun v s' hq => wpAny_pure hq) (fun e s' he => ?_))))
  exact wpAny_bind (wpAny_isInstance (T := "StopIteration") (b := true) he.1 isSubtype_stop (wpAny_pure he.2))
end

section
variable {prog : Program} {w : World} {h00 : Heap} {mg mb : Str → Option Value} {A : Around} {B : Led} {s : Shared} {K : Frag} {C fI fT fN p₁ p₀ x dx l I u sk : Addr} {α : Type} {k : Kind α} {E : Value → Shared → Prop}
open Classical in
theorem ff_next {vs : List Value} {xs ys : List α} {i : Nat} {oI : Obj} {Q : Option Value → Shared → Prop} (T : FF h00 K C fI fT fN p₁ p₀) (N : Nm2 mg mb) (e0 : Env0 h00 mg mb) (G : Gl h00 A s.heap) (hb : Has s.heap B) (R : Room A 1 (k.deep + 9)) (hl : (l, vs) ∈ B) (hxs : All2 (k.rel B) vs xs) (hys : k.list.rel B (.ref sk) ys)
    (hI : IsLit oI l i) (hi : i ≤ xs.length)
    (hZ : Own h00 A B s.heap [(I, oI), (x, ffObj C dx (.ref u) I), (dx, emptyDict), (u, bcObj sk)]) (hne : I ∉ [x, dx, u])
    (item : ∀ v a j s' oI', Stp A B (hid s [I, x, dx, u]) B s' → (∀ p ∈ [(I, oI'), (x, ffObj C dx (.ref u) I), (dx, emptyDict), (u, bcObj sk)], s'.heap.get? p.1 = some p.2) → IsLit oI' l j → i < j → j ≤ xs.length → k.rel B v a → (xs.take j).filter (fun a => decide (a ∉ ys)) = (xs.take i).filter (fun a => decide (a ∉ ys)) ++ [a] → Q (some v) s')
    (stop : ∀ s' oI', Stp A B (hid s [I, x, dx, u]) B s' → (∀ p ∈ [(I, oI'), (x, ffObj C dx (.ref u) I), (dx, emptyDict), (u, bcObj sk)], s'.heap.get? p.1 = some p.2) → xs.filter (fun a => decide (a ∉ ys)) = (xs.take i).filter (fun a => decide (a ∉ ys)) → Q none s') :
    wpAny (model prog w) A (pyNext (.ref x)) Q E s := by
  obtain ⟨kwd, ann, pm, cd, doc, rfl, D⟩ := T.dN
  have px := hZ (x, ffObj C dx (.ref u) I) (by simp)
  have pd := hZ (dx, emptyDict) (by simp)
  refine own_next (T.X.keeps G.stay) (inst_ff px.1 pd.1) T.next T.nextF (wpAny_call ?_)
  refine call_code (mg := mg) (mb := mb) (binds := [("self", .ref x)]) [(I, oI), (x, ffObj C dx (.ref u) I), (dx, emptyDict), (u, bcObj sk)] e0 G hb hZ D (by have := R.dp; omega) (by with_unfolding_all rfl) ?_ fun s₁ L hL F => ?_
  · intro x hx
    rcases List.mem_singleton.mp hx with rfl
    exact .inl (by rfl)
  have R' : Room (A.deeper (callEnvC (fdM 2 3 "filterfalse.__next__" .none .none ann pm cd doc) L fN)) 0 (k.deep + 6) := R.deeper _
  have h1 : (bindL (callEnvC (fdM 2 3 "filterfalse.__next__" .none .none ann pm cd doc) L fN).kindOf [("self", .ref x)] fun _ => none) "self" = some (.ref x) := by rfl
  generalize (bindL (callEnvC (fdM 2 3 "filterfalse.__next__" .none .none ann pm cd doc) L fN).kindOf [("self", .ref x)] fun _ => none) = m at F h1
  generalize hE : (fun (e : Value) (s' : Shared) => wpAny (model prog w) (A.deeper (callEnvC (fdM 2 3 "filterfalse.__next__" .none .none ann pm cd doc) L fN)) (leaving (callEnvC (fdM 2 3 "filterfalse.__next__" .none .none ann pm cd doc) L fN) e) _ _ s') = E'
  have pass : PassesOwn (model prog w) (A.deeper (callEnvC (fdM 2 3 "filterfalse.__next__" .none .none ann pm cd doc) L fN)) (callEnvC (fdM 2 3 "filterfalse.__next__" .none .none ann pm cd doc) L fN) E' := by rw [← hE]; passes_own
  refine wpAny_execs_cons (wpAny_Assign_Name (Attribute_name (F.rd.name_l h1 ?_)))
  refine getslot (T.X.keeps F.rd.gl.stay) (inst_ff (F.pin (x, ffObj C dx (.ref u) I) (by simp)).1 (F.pin (dx, emptyDict) (by simp)).1) T.pg₀ T.cls T.fi₀ T.sp₀ T.tk₀ T.sl₀ (v := .ref u) rfl rfl fun tk => ?_
  refine (F.lt tk).st fun s₂ F₂ => ?_
  dsimp only
  refine wpAny_execs_cons (wpAny_While ?_)
  have e1 : xs.length = vs.length := hxs.len.symm
  refine codeAny_whileLoop (fun n s' => ∃ i' oI' m', i ≤ i' ∧ i' ≤ xs.length ∧ n = xs.length - i' ∧ m' "self" = some (.ref x) ∧ m' "func" = some (.ref u) ∧ (xs.take i').filter (fun a => decide (a ∉ ys)) = (xs.take i).filter (fun a => decide (a ∉ ys)) ∧ IsLit oI' l i' ∧
    ∃ cm', Fm h00 mg mb A B (hid s [I, x, dx, u]) (callEnvC (fdM 2 3 "filterfalse.__next__" .none .none ann pm cd doc) L fN) m' cm' [(I, oI'), (x, ffObj C dx (.ref u) I), (dx, emptyDict), (u, bcObj sk)] B s') ?_ _ ⟨i, oI, _, Nat.le_refl _, hi, rfl, upd_get h1, upd_same, rfl, hI, _, F₂⟩
  rintro n s' ⟨i', oI', m', hle, hi', rfl, g1, g2, hfil, hI', cm', F'⟩
  have hZ' : ∀ p ∈ [(x, ffObj C dx (.ref u) I), (dx, emptyDict), (u, bcObj sk)], p.1 ≠ I := fun p hp e => hne (by rw [← e]; exact List.mem_map.mpr ⟨p, hp, rfl⟩)
  refine wpAny_passesOwn pass (wpAny_isTrue_value (wpAny_Constant_bool (wpAny_truthy_bool ?_)))
  rw [if_pos rfl]
  refine wpAny_passesOwn pass (wpAny_execs_cons (wpAny_Assign_Name ?_))
  refine callB1 (fun Q' hq => F'.rd.name_b N.next.1 N.next.2 hq) ?_
  refine Attribute_name (F'.rd.name_l g1 ?_)
  refine getslot (T.X.keeps F'.rd.gl.stay) (inst_ff (F'.pin (x, ffObj C dx (.ref u) I) (by simp)).1 (F'.pin (dx, emptyDict) (by simp)).1) T.pg₁ T.cls T.fi₁ T.sp₁ T.tk₁ T.sl₁ (v := .ref I) rfl rfl fun tk => ?_
  have F'' := F'.lt tk
  by_cases hlt : i' < xs.length
  · obtain ⟨v, ev, hv⟩ := hxs.get' (List.getElem?_eq_getElem hlt)
    refine next_item (hI'.at (F''.pin (I, oI') (by simp)).1) (F''.rd.has _ hl).1 (x := v) (by simpa using ev) fun h' hit' hs' => ?_
    obtain ⟨o₂, ho₂, hc₂, hd₂⟩ := hit'
    have F₃ := F''.repin (tk := tk) hs'.extBut ho₂ hZ'
    refine F₃.st fun s₄ F₄ => ?_
    dsimp only
    refine wpAny_execs_cons (wpAny_If (wpAny_isTrue_BoolOp (wpAny_allTrue_Or_cons (wpAny_isTrue_Compare1 ?_))))
    refine F₄.rd.name_l (upd_get g2) (wpAny_Constant_none (is_none_ne (by intro q; cases q) (wpAny_truthy_bool ?_)))
    rw [if_neg (by decide)]
    refine wpAny_allTrue_Or_cons (wpAny_isTrue_Compare1 ?_)
    refine F₄.rd.name_l (upd_get g2) (F₄.rd.name_b N.bool.1 N.bool.2 ?_)
    show wpAny _ _ (isSame (.ref u) (.type "bool") >>= fun b => pure (Value.bool b)) _ _ _
    rw [isSame_plain rfl]
    refine wpAny_bind (wpAny_pure (wpAny_pure (wpAny_truthy_bool ?_)))
    rw [if_neg (show ¬ ((Value.ref u == Value.type "bool") = true) from Bool.false_ne_true)]
    refine wpAny_allTrue_Or_nil ?_
    rw [if_neg (by decide)]
    refine wpAny_execs_cons (wpAny_If (wpAny_isTrue_Not (wpAny_isTrue_value ?_)))
    refine wpAny_Call_ofName (F₄.rd.name_l (upd_get g2) ?_)
    refine callWith_of (P := fun h => h.get? u = some (bcObj sk)) rfl (fun h ho => bc_keep h ho) (evalArgs_plain (spliced_cons (F₄.rd.name_l upd_same (spliced_nil ⟨(F₄.pin (u, bcObj sk) (by simp)).1, ?_⟩))))
    refine bc_call k (F₄.pin (u, bcObj sk) (by simp)).1 F₄.rd.has hv hys (decide (xs[i'] ∈ ys)) decide_eq_true_iff (by have := R'.un; omega) (wpAny_truthy_bool ?_)
    by_cases hin : xs[i'] ∈ ys
    · rw [decide_eq_true hin]
      refine wpAny_execs_nil (wpAny_execs_nil (wpAny_execs_nil ?_))
      refine ⟨xs.length - (i' + 1), by omega, i' + 1, o₂, _, by omega, hlt, rfl, upd_get g1, upd_get g2, ?_, ⟨hc₂, hd₂⟩, _, F₄⟩
      rw [filter_take (List.getElem?_eq_getElem hlt), if_neg (by simp [hin])]
      exact hfil
    · rw [decide_eq_false hin]
      refine wpAny_execs_cons (wpAny_Return_some (F₄.rd.name_l upd_same ?_))
      refine item v xs[i'] (i' + 1) _ o₂ F₄.stp (fun p hp => (F₄.pin p hp).1) ⟨hc₂, hd₂⟩ (by omega) hlt hv ?_
      rw [filter_take (List.getElem?_eq_getElem hlt), if_pos (by simp [hin]), hfil]
  · have hle' : xs.length ≤ i' := Nat.le_of_not_lt hlt
    refine next_stop (by have := R'.hh; exact this) (hI'.at (F''.pin (I, oI') (by simp)).1) (F''.rd.has _ hl).1 (by simp; omega) fun h₁ o' e oe ws t h' hs₁ ho' hns keeps new he hc hd hw1 hw0 => ?_
    have F₃ := F''.repin (tk := tk) hs₁.extBut ho' hZ'
    rw [← hE]
    refine leave_new (s₁ := { s' with heap := h₁, toks := tk }) F₃.rd.gl F₃.stack F₃.rd.has F₃.frame keeps new he hc hd hw1 hw0 fun base h'' y fl _ ht _ => ?_
    obtain ⟨ox, hox, hcx⟩ := ht
    have F₄ := F₃.go y
    refine ⟨⟨ox, hox, hcx⟩, stop _ o' F₄.stp (fun p hp => (F₄.pin p hp).1) ?_⟩
    rw [← hfil, List.take_of_length_le hle']
end
end Mine

end
section
open PySem PySem.W PyProof.Rows PySem.Calls
set_option Elab.async false
set_option autoImplicit false
set_option linter.unusedVariables false
set_option maxRecDepth 100000
namespace Mine
section
variable {prog : Program} {w : World} {A : Around} {E : Value → Shared → Prop} {s : Shared} {K : Frag} {x C f : Addr} {ox : Obj} {od : Option Obj}
theorem own_iter {Q : Value → Shared → Prop} {g : Value} (X : K.In s.heap) (I : InstAt s.heap x ox C od) (hs : findIn K (.ref C) "__iter__" = some (some (.ref f))) (hf : isFn K (.ref f) = true) (hn : findIn K (.ref C) "__next__" = some (some g))
    (h : wpAny (model prog w) A (call (.ref f) [.ref x]) (fun v s' => v = .ref x ∧ K.In s'.heap ∧ InstAt s'.heap x ox C od ∧ Q (.ref x) s') E s) : wpAny (model prog w) A (pyIter (.ref x)) Q E s := by
  have it : wpAny (model prog w) A (call (.ref f) [.ref x]) (OwitIt (model prog w) A Q E) E s := wpAny_mono h (fun v s' h' => by
    obtain ⟨rfl, X', I', q⟩ := h'
    exact wpAny_bind (I'.type.here ((looks_findIn X' hn).here q))) fun _ _ z => z
  have fin : wpAny (model prog w) A (call (.ref f) [.ref x] >>= fun v => pure (some v)) (fun r s' => ∃ v, r = some v ∧ OwitIt (model prog w) A Q E v s') E s :=
    wpAny_bind (wpAny_mono it (fun v s' h' => wpAny_pure ⟨v, rfl, h'⟩) fun _ _ z => z)
  have one : ∀ refuse : Sem Value, wpAny (model prog w) A (callSpecialIfBoundUnlessNone? (.ref x) "__iter__" refuse) (fun r s' => ∃ v, r = some v ∧ OwitIt (model prog w) A Q E v s') E s := by
    intro refuse
    have fin2 : wpAny (model prog w) A (if (Value.ref f == Value.none) = true then (refuse >>= fun v => pure (some v)) else (call (.ref f) [.ref x] >>= fun v => pure (some v))) (fun r s' => ∃ v, r = some v ∧ OwitIt (model prog w) A Q E v s') E s := by
      rw [if_neg (show ¬ ((Value.ref f == Value.none) = true) from Bool.false_ne_true)]
      exact fin
    simp only [callSpecialIfBoundUnlessNone?, bindSpecialIfBound?]
    refine wpAny_holding (wpAny_bind (wpAny_bind (wpAny_bind (I.type.here ((looks_findIn X hs).here ?_)))))
    refine wpAny_bind (wpAny_askSetting (wpAny_ite ?_))
    split
    · exact wpAny_bind ((bind_fn X _ (beq_iff_eq.mp hf)).here (wpAny_pure (by exact fin2)))
    · exact wpAny_tryCatch (wpAny_bind ((bind_fn X _ (beq_iff_eq.mp hf)).here (wpAny_pure (by exact fin2))))
  unfold pyIter
  refine wpAny_bind (wpAny_bind (I.type.here ((looks_findIn X hs).here ?_)))
  show wpAny (model prog w) A (callSpecialIfBoundUnlessNone? (.ref x) "__iter__" _ >>= _) Q E s
  refine wpAny_bind (wpAny_mono (one _) (fun r s' hr => ?_) fun _ _ z => z)
  obtain ⟨v, rfl, hv⟩ := hr
  refine wpAny_bind (wpAny_mono hv (fun r s₂ hr => ?_) fun _ _ z => z)
  cases r with
  | none => exact hr.elim
  | some g => exact wpAny_pure hr

theorem own_hint {Q : Bool → Shared → Prop} (X : K.In s.heap) (I : InstAt s.heap x ox C od) (h1 : findIn K (.ref C) "__len__" = some none) (h2 : findIn K (.ref C) "__length_hint__" = some none) (h : Q true s) : wpAny (model prog w) A (Builtin.List.listLengthHint (.ref x)) Q E s := by
  unfold Builtin.List.listLengthHint
  refine wpAny_bind (wpAny_bind (I.type.here ((looks_findIn X h1).here ?_)))
  dsimp only
  refine KFB.if_not rfl ?_
  refine KFB.if_not rfl ?_
  refine wpAny_bind (wpAny_bind (I.type.here ((looks_findIn X h2).here ?_)))
  exact wpAny_pure h
end
end Mine

end
section
open PySem PySem.W PyProof.Rows PySem.Calls
set_option Elab.async false
set_option autoImplicit false
set_option linter.unusedVariables false
set_option maxRecDepth 100000
namespace Mine
theorem Gl.stp {h00 : Heap} {A : Around} {B B' : Led} {s s' : Shared} (G : Gl h00 A s.heap) (x : Stp A B s B' s') : Gl h00 A s'.heap := G.kp x.kp

theorem Stp.hidTrans {A : Around} {B : Led} {s s₁ s₂ : Shared} {l : List Addr} (x : Stp A B (hid s l) B s₁) (y : Stp A B (hid s₁ l) B s₂) : Stp A B (hid s l) B s₂ := by
  obtain ⟨⟨h₁, t₁, rfl⟩, k1, a1, b1, c1⟩ := x
  obtain ⟨⟨h₂, t₂, rfl⟩, k2, a2, b2, c2⟩ := y
  have k1' : Kp (frs A) (hideAll s.heap l) h₁ := k1
  have k2' : Kp (frs A) (hideAll h₁ l) h₂ := k2
  have off : ∀ b o, (hideAll s.heap l).get? b = some o → b ∉ l := fun b o e hm => by rw [hideAll_none l hm] at e; cases e
  refine ⟨⟨h₂, t₂, rfl⟩, ⟨fun b o hb e => k2'.keep b o hb (hideAll_get l (k1'.keep b o hb e) (off b o e)), fun b o e => ?_⟩, a2, b2, fun p hp => .inl hp⟩
  obtain ⟨sl, e1⟩ := k1'.slot b o e
  obtain ⟨sl2, e2⟩ := k2'.slot b _ (hideAll_get l e1 (off b o e))
  exact ⟨sl2, e2⟩
theorem Stp.hidBut {A : Around} {B : Led} {s s₁ : Shared} {l : List Addr} {a : Addr} {h' : Heap} {tk : Nat} (x : Stp A B (hid s l) B s₁) (hs : Heap.ExtBut a s₁.heap h') (hn : (hid s l).heap.get? a = none) (hB : ∀ q ∈ B, q.1 ≠ a) : Stp A B (hid s l) B { s₁ with heap := h', toks := tk } := by
  obtain ⟨⟨h₁, t₁, rfl⟩, k1, a1, b1, c1⟩ := x
  exact ⟨⟨h', tk, rfl⟩, kp_ext k1 hn hs, fun p hp => (a1 p hp).extBut hs (hB p hp), b1, c1⟩

abbrev ffZ (C x dx u sk I : Addr) (oI : Obj) : List (Addr × Obj) := [(I, oI), (x, ffObj C dx (.ref u) I), (dx, emptyDict), (u, bcObj sk)]

section
variable {prog : Program} {w : World} {h00 : Heap} {mg mb : Str → Option Value} {A : Around} {B : Led} {K : Frag} {C fI fT fN p₁ p₀ x dx l I u sk D : Addr} {α : Type} {k : Kind α} {s : Shared}
/-- how a list() over a filterfalse stands -/
structure LS (A : Around) (B : Led) (s : Shared) (C x dx u sk I l D : Addr) (i : Nat) (acc : List Value) (s' : Shared) : Prop where
  stp : Stp A B (hid s [I, x, dx, u]) B s'
  own : ∃ oI, IsLit oI l i ∧ ∀ p ∈ ffZ C x dx u sk I oI, s'.heap.get? p.1 = some p.2
  d : ∃ c, s'.heap.get? D = some { cls := .type "list", data := .seq acc.toArray c }

theorem LS.put {i : Nat} {acc acc' : List Value} {s' : Shared} {h' : Heap} {tk : Nat} (L : LS A B s C x dx u sk I l D i acc s') (hD : s.heap.get? D = none) (hDz : D ∉ [I, x, dx, u]) (hs : Heap.ExtBut D s'.heap h') (hd : ∃ c, h'.get? D = some { cls := .type "list", data := .seq acc'.toArray c }) (hB : ∀ q ∈ B, q.1 ≠ D) :
    LS A B s C x dx u sk I l D i acc' { s' with heap := h', toks := tk } := by
  obtain ⟨oI, hI, own⟩ := L.own
  have hn : (hid s [I, x, dx, u]).heap.get? D = none := by
    cases q : (hid s [I, x, dx, u]).heap.get? D with
    | none => rfl
    | some o => have := of_hideAll _ q; rw [hD] at this; cases this
  refine ⟨L.stp.hidBut hs hn hB, ⟨oI, hI, fun p hp => hs _ _ (fun e => hDz ?_) (own p hp)⟩, hd⟩
  rw [← e]
  simp only [List.mem_cons, List.not_mem_nil, or_false] at hp ⊢
  rcases hp with rfl | rfl | rfl | rfl <;> simp

open Classical in
theorem ff_loop {vs : List Value} {xs ys : List α} {s : Shared} {res : Value} {R : Result → Shared → Prop} (T : FF h00 K C fI fT fN p₁ p₀) (N : Nm2 mg mb) (e0 : Env0 h00 mg mb) (G : Gl h00 A s.heap) (hb : Has s.heap B) (Rm : Room A 1 (k.deep + 10)) (hl : (l, vs) ∈ B) (hxs : All2 (k.rel B) vs xs) (hys : k.list.rel B (.ref sk) ys) (hsz : xs.length ≤ sizeLine)
    (hZ : ∀ p ∈ [I, x, dx, u], h00.get? p = none ∧ p ∉ frs A ∧ ∀ q ∈ B, q.1 ≠ p) (hne : I ∉ [x, dx, u]) (hD : s.heap.get? D = none) (hDz : D ∉ [I, x, dx, u])
    (hR : ∀ s' acc, Stp A B (hid s [I, x, dx, u]) B s' → (∃ c, s'.heap.get? D = some { cls := .type "list", data := .seq acc.toArray c }) → All2 (k.rel B) acc (xs.filter fun a => decide (a ∉ ys)) → R (.ok (.ret res)) s') :
    ∀ (n i : Nat) (acc : List Value) (s' : Shared), n = xs.length - i → i ≤ xs.length → LS A B s C x dx u sk I l D i acc s' → All2 (k.rel B) acc ((xs.take i).filter fun a => decide (a ∉ ys)) →
      codeAny (model prog w) A (.builtin "list.extend.loop" ⟨[.ref D, .ref x, res], []⟩) R s' := by
  intro n
  induction n using Nat.strongRecOn with
  | _ n ih =>
    intro i acc s' hn hi L hacc
    have hB : ∀ q ∈ B, q.1 ≠ D := fun q hq e => by
      obtain ⟨o, ho, _⟩ := (hb q hq).1
      rw [e, hD] at ho; cases ho
    have hfr : D ∉ frs A := fun hm => by
      obtain ⟨o, ho⟩ := G.mem hm
      rw [hD] at ho; cases ho
    obtain ⟨oI, hI, own⟩ := L.own
    have hO : Own h00 A B s'.heap (ffZ C x dx u sk I oI) := fun p hp => by
      refine ⟨own p hp, hZ p.1 ?_⟩
      simp only [List.mem_cons, List.not_mem_nil, or_false] at hp ⊢
      rcases hp with rfl | rfl | rfl | rfl <;> simp
    have G0 : Gl h00 A (hid s [I, x, dx, u]).heap := by
      refine ⟨fun b o e => hideAll_get _ (G.stay b o e) fun hm => ?_, G.stack, funFrames_hideAll G.frames fun env he a ha q => ?_⟩
      · rw [(hZ b hm).1] at e; cases e
      · exact (hZ a ha).2.1 (List.mem_filterMap.mpr ⟨env, he, q⟩)
    have G' := G0.stp L.stp
    refine codeAny_builtin PySem.F.entry_extend_loop ?_
    rw [Around.under_plainId PySem.F.plain_extend_loop _]
    show wpAny _ A.in1 (pyNext (.ref x) >>= _) _ _ s'
    have keepD : ∀ {s₂ : Shared} {acc : List Value}, (∃ c, s'.heap.get? D = some { cls := .type "list", data := .seq acc.toArray c }) → Stp A.in1 B (hid s' [I, x, dx, u]) B s₂ → ∃ c, s₂.heap.get? D = some { cls := .type "list", data := .seq acc.toArray c } := fun ⟨c, hc⟩ y =>
      ⟨c, y.kp.keep D _ hfr (hideAll_get _ hc hDz)⟩
    refine wpAny_bind (ff_next (A := A.in1) (k := k) (mg := mg) (mb := mb) T N e0 (G'.around rfl) L.stp.has ⟨Rm.hh, Rm.dp, by have := Rm.un; show A.units + 1 + _ < _; omega⟩ hl hxs hys hI hi hO hne (fun v a j s₂ oI' y hown hI' hij hj hv hfil => ?_) (fun s₂ oI' y hown hfil => ?_))
    · obtain ⟨c, hd⟩ := keepD L.d y
      show wpAny _ A.in1 (updateSeq D (·.push v) >>= _) _ _ _
      have hlen : acc.length ≤ i := by
        have a := hacc.len
        have b := List.length_filter_le (fun a => decide (a ∉ ys)) (xs.take i)
        simp only [List.length_take] at b; omega
      have L₂ : LS A B s C x dx u sk I l D j acc s₂ := ⟨L.stp.hidTrans (y.around rfl), ⟨oI', hI', hown⟩, c, hd⟩
      refine wpAny_bind (wpAny_updateSeq hd rfl (wpAny_pure ⟨plainId_quiet PySem.F.plain_extend_loop _, ?_⟩) (by simp; omega) (by simp; omega))
      refine ih (xs.length - j) (by omega) j (acc ++ [v]) _ rfl hj (L₂.put (tk := s₂.toks) hD hDz (Heap.SameBut.update ..).extBut ⟨c + 1, ?_⟩ hB) ?_
      · rw [Heap.get?_update_self _ hd (by rw [mapSeq_push]; rfl), mapSeq_push]
        simp
      · rw [hfil]
        exact app_one hacc hv
    · refine wpAny_pure ?_
      refine hR _ acc (L.stp.hidTrans (y.around rfl)) (keepD L.d y) ?_
      rw [hfil]; exact hacc
end
end Mine

end
section
open PySem PySem.W PyProof.Rows PySem.Calls
set_option Elab.async false
set_option autoImplicit false
set_option linter.unusedVariables false
set_option maxRecDepth 100000
namespace Mine
section
variable {prog : Program} {w : World} {h00 : Heap} {mg mb : Str → Option Value} {A : Around} {B : Led} {K : Frag} {C fI fT fN p₁ p₀ x dx l I u sk : Addr} {α : Type} {k : Kind α} {s : Shared}
open Classical in
theorem list_ff {vs : List Value} {xs ys : List α} {oI : Obj} {Q E : Value → Shared → Prop} (T : FF h00 K C fI fT fN p₁ p₀) (N : Nm2 mg mb) (e0 : Env0 h00 mg mb) (G : Gl h00 A s.heap) (hb : Has s.heap B) (Rm : Room A 1 (k.deep + 12)) (hl : (l, vs) ∈ B) (hxs : All2 (k.rel B) vs xs) (hys : k.list.rel B (.ref sk) ys) (hsz : xs.length ≤ sizeLine)
    (hZ : Own h00 A B s.heap (ffZ C x dx u sk I oI)) (hI : IsLit oI l 0) (hne : I ∉ [x, dx, u])
    (hQ : ∀ s' D acc, Stp A B (hid s [I, x, dx, u]) ((D, acc) :: B) s' → All2 (k.rel B) acc (xs.filter fun a => decide (a ∉ ys)) → Q (.ref D) s') :
    wpAny (model prog w) A (call (.type "list") [.ref x]) Q E s := by
  refine callType_codes (Q₁ := fun obj s₁ => obj = .ref s.heap.objs.size ∧ s₁ = { s with heap := s.heap.push { cls := .type "list", data := .seq #[] } }) PySem.F.called_list (PySem.F.typeCall_list_1 _) PySem.F.entry_list_init
    (code_list_new _ ⟨rfl, rfl⟩) fun obj s₁ h₁ => ?_
  obtain ⟨rfl, rfl⟩ := h₁
  have hS : (s.heap.push { cls := .type "list", data := .seq #[] }).get? s.heap.objs.size = some { cls := .type "list", data := .seq #[] } := Heap.get?_push_size _ rfl
  refine ⟨⟨_, hS, rfl⟩, PySem.F.args_list_init_2 _ _, ?_⟩
  generalize hDD : s.heap.objs.size = D at hS
  have hDn : s.heap.get? D = none := hDD ▸ fresh_size _
  have lt : ∀ b o, s.heap.get? b = some o → b ≠ D := fun b o e q => by rw [q, hDn] at e; cases e
  have px := hZ (x, ffObj C dx (.ref u) I) (by simp)
  have pd := hZ (dx, emptyDict) (by simp)
  have pI := hZ (I, oI) (by simp)
  have pu := hZ (u, bcObj sk) (by simp)
  have hDz : D ∉ [I, x, dx, u] := by
    simp only [List.mem_cons, List.not_mem_nil, or_false, not_or]
    exact ⟨fun e => lt _ _ pI.1 e.symm, fun e => lt _ _ px.1 e.symm, fun e => lt _ _ pd.1 e.symm, fun e => lt _ _ pu.1 e.symm⟩
  have hB : ∀ q ∈ B, q.1 ≠ D := fun q hq e => by
    obtain ⟨o, ho, _⟩ := (hb q hq).1
    rw [e, hDn] at ho; cases ho
  have hZ' : ∀ p ∈ [I, x, dx, u], h00.get? p = none ∧ p ∉ frs A ∧ ∀ q ∈ B, q.1 ≠ p := fun p hp => by
    simp only [List.mem_cons, List.not_mem_nil, or_false] at hp
    rcases hp with rfl | rfl | rfl | rfl
    · exact pI.2
    · exact px.2
    · exact pd.2
    · exact pu.2
  have keep0 : ∀ b o, s.heap.get? b = some o → (s.heap.push { cls := .type "list", data := .seq #[] }).get? b = some o := fun b o e => Heap.get?_push_of_some _ e
  have L0 : LS A B s C x dx u sk I l D 0 [] { s with heap := s.heap.push { cls := .type "list", data := .seq #[] } } := by
    refine ⟨⟨⟨_, _, rfl⟩, .of_keeps fun b o e => keep0 b o (of_hideAll _ e), fun p hp => (hb p hp).keeps fun o e => keep0 _ o e, fun _ h => h, fun _ h => .inl h⟩, ⟨oI, hI, fun p hp => keep0 _ _ (hZ p hp).1⟩, 0, hS⟩
  show wpAny _ A.in1.in1 (do let old ← Builtin.List.listItems (.ref D); Builtin.List.listUpdate (.ref D) (fun _ => #[]); letGo old.toList.reverse; Builtin.List.listExtendWith (.ref D) (.ref x) .none) _ _ _
  refine wpAny_bind ?_
  unfold Builtin.List.listItems
  refine wpAny_bind (wpAny_seqItems hS rfl (wpAny_pure ?_))
  show wpAny _ _ (updateSeq D (fun _ => #[]) >>= fun _ => letGo (#[] : Array Value).toList.reverse >>= fun _ => Builtin.List.listExtendWith (.ref D) (.ref x) .none) _ _ _
  refine wpAny_bind (wpAny_updateSeq hS rfl ?_)
  have hS₁ := Heap.get?_update_self (Obj.mapSeq (fun _ => (#[] : Array Value))) hS rfl
  have L1 := L0.put (tk := s.toks) (acc' := []) hDn hDz (Heap.SameBut.update _ _ (Obj.mapSeq (fun _ => (#[] : Array Value)))).extBut ⟨_, hS₁⟩ hB
  refine wpAny_bind (wpAny_letGo ?_)
  clear L0 hS
  generalize hs1 : ({ s with heap := (s.heap.push { cls := .type "list", data := .seq #[] }).update D (Obj.mapSeq (fun _ => (#[] : Array Value))), toks := s.toks } : Shared) = s₁ at L1
  have hs1' : ({ heap := (s.heap.push { cls := .type "list", data := .seq #[] }).update D (Obj.mapSeq (fun _ => (#[] : Array Value))), gens := s.gens, drawn := s.drawn, toks := s.toks, os := s.os } : Shared) = s₁ := hs1
  have G0 : Gl h00 A (hid s [I, x, dx, u]).heap := by
    refine ⟨fun b o e => hideAll_get _ (G.stay b o e) fun hm => ?_, G.stack, funFrames_hideAll G.frames fun env he a ha q => ?_⟩
    · rw [(hZ' b hm).1] at e; cases e
    · exact (hZ' a ha).2.1 (List.mem_filterMap.mpr ⟨env, he, q⟩)
  have hfr : D ∉ frs A := fun hm => by
    obtain ⟨o, ho⟩ := G.mem hm
    rw [hDn] at ho; cases ho
  have inst : ∀ {i : Nat} {acc : List Value} {s' : Shared}, LS A B s C x dx u sk I l D i acc s' → InstAt s'.heap x (ffObj C dx (.ref u) I) C (some emptyDict) := fun L => by
    obtain ⟨oI', _, own⟩ := L.own
    exact inst_ff (own (x, ffObj C dx (.ref u) I) (by simp)) (own (dx, emptyDict) (by simp))
  have kin : ∀ {i : Nat} {acc : List Value} {s' : Shared}, LS A B s C x dx u sk I l D i acc s' → K.In s'.heap := fun L => T.X.keeps (G0.stp L.stp).stay
  clear hs1 hs1' hS₁
  unfold Builtin.List.listExtendWith
  refine wpAny_bind ((inst L1).type.here ?_)
  have h1 : Builtin.List.listSameRef (.ref D) (.ref x) = false := by
    simp only [Builtin.List.listSameRef, beq_eq_false_iff_ne]
    exact fun e => lt _ _ px.1 e.symm
  have h2 : (Value.ref C == Value.type "list") = false := rfl
  have h3 : (Value.ref C == Value.type "tuple") = false := rfl
  simp only [h1, h2, h3, Bool.or_false, Bool.false_eq_true, if_false]
  refine wpAny_bind (own_iter (kin L1) (inst L1) T.iter T.iterF T.next ?_)
  obtain ⟨kwd, ann, pm, cd, doc, rfl, D'⟩ := T.dT
  have G1 : Gl h00 A.in1.in1 s₁.heap := (G0.stp L1.stp).around rfl
  refine call_def (mg := mg) (mb := mb) (binds := [("self", .ref x)]) e0 G1 L1.stp.has D' (by have := Rm.dp; show A.depth < _; omega) (by with_unfolding_all rfl) ?_ fun s₂ L F => ?_
  · intro y hy
    rcases List.mem_singleton.mp hy with rfl
    exact .inl (by rfl)
  have hm : (bindL (callEnvC (fdM 2 2 "filterfalse.__iter__" .none .none ann pm cd doc) L fT).kindOf [("self", .ref x)] fun _ => none) "self" = some (.ref x) := by rfl
  refine wpAny_execs_cons (wpAny_Return_some (F.rd.name_l hm ?_))
  have y : Stp A B s₁ B s₂ := F.stp.around rfl
  have L2 : LS A B s C x dx u sk I l D 0 [] s₂ := by
    obtain ⟨oI', hI', own⟩ := L1.own
    obtain ⟨c, hc⟩ := L1.d
    refine ⟨L1.stp.trans y, ⟨oI', hI', fun p hp => y.kp.keep _ _ ?_ (own p hp)⟩, c, y.kp.keep _ _ hfr hc⟩
    refine (hZ' p.1 ?_).2.1
    simp only [List.mem_cons, List.not_mem_nil, or_false] at hp ⊢
    rcases hp with rfl | rfl | rfl | rfl <;> simp
  refine ⟨rfl, kin L2, inst L2, ?_⟩
  refine wpAny_bind (wpAny_holding (own_hint (kin L2) (inst L2) T.len T.hint ?_))
  refine wpAny_ite_split (fun _ => ?_) (fun hab => absurd (by simp) hab)
  refine wpAny_bind (wpAny_rule (wpAny_bind ?_))
  show wpAny _ _ (updateSeq D (·.push .none) >>= fun _ => updateSeq D (·.pop)) _ _ _
  obtain ⟨c, hc⟩ := L2.d
  refine wpAny_bind (wpAny_updateSeq hc rfl ?_)
  have hc₁ := Heap.get?_update_self (Obj.mapSeq (·.push Value.none)) hc rfl
  have L3 := L2.put (tk := s₂.toks) (acc' := [.none]) hDn hDz (Heap.SameBut.update _ _ (Obj.mapSeq (·.push Value.none))).extBut ⟨_, hc₁⟩ hB
  refine wpAny_updateSeq (hz := by simp [sizeLine]) hc₁ rfl ?_
  have hc₂ := Heap.get?_update_self (Obj.mapSeq (·.pop)) hc₁ rfl
  have L4 := L3.put (tk := s₂.toks) (acc' := []) hDn hDz (Heap.SameBut.update _ _ (Obj.mapSeq (·.pop))).extBut ⟨_, hc₂⟩ hB
  refine wpAny_pure ⟨plainId_quiet PySem.F.plain_extend_loop _, ?_⟩
  refine ff_loop (A := A.in1) (k := k) (mg := mg) (mb := mb) T N e0 (G.around rfl) hb ⟨Rm.hh, Rm.dp, by have := Rm.un; show A.units + 1 + _ < _; omega⟩ hl hxs hys hsz hZ' hne hDn hDz (fun s' acc y hd hacc => ?_) _ 0 [] _ rfl (Nat.zero_le _) ⟨L4.stp.around rfl, L4.own, L4.d⟩ .nil
  obtain ⟨c', hc'⟩ := hd
  refine ⟨rfl, hQ s' D acc ⟨y.same, y.kp, fun p hp => ?_, fun p hp => .tail _ hp, fun p hp => ?_⟩ hacc⟩
  · rcases List.mem_cons.mp hp with rfl | hp
    · exact .mk hc'
    · exact y.has p hp
  · rcases List.mem_cons.mp hp with rfl | hp
    · refine .inr ?_
      cases q : (hid s [I, x, dx, u]).heap.get? D with
      | none => rfl
      | some o => have := of_hideAll _ q; rw [hDn] at this; cases this
    · exact .inl hp
end
end Mine

end
section
open PySem PySem.W PyProof.Rows PySem.Calls
set_option Elab.async false
set_option autoImplicit false
set_option linter.unusedVariables false
set_option maxRecDepth 100000
namespace Mine
theorem Stp.unhid' {A : Around} {B B' : Led} {s s₁ s' : Shared} {l : List Addr} (x : Stp A B s B s₁) (hn : ∀ a ∈ l, s.heap.get? a = none) (y : Stp A B (hid s₁ l) B' s') : Stp A B s B' s' := by
  obtain ⟨⟨h₁, t₁, rfl⟩, k1, a1, b1, c1⟩ := x
  obtain ⟨⟨h₂, t₂, e⟩, k2, a2, b2, c2⟩ := y
  have off : ∀ b o, s.heap.get? b = some o → b ∉ l := fun b o e hm => by rw [hn b hm] at e; cases e
  have k1' : Kp (frs A) s.heap h₁ := k1
  have k2' : Kp (frs A) (hideAll h₁ l) s'.heap := k2
  refine ⟨⟨h₂, t₂, by rw [e]; rfl⟩, ⟨fun b o hb e => k2'.keep b o hb (hideAll_get l (k1'.keep b o hb e) (off b o e)), fun b o e => ?_⟩, a2, b2, fun p hp => (c2 p hp).imp id fun h => ?_⟩
  · obtain ⟨sl, e1⟩ := k1'.slot b o e
    obtain ⟨sl2, e2⟩ := k2'.slot b _ (hideAll_get l e1 (off b o e))
    exact ⟨sl2, e2⟩
  · cases q : s.heap.get? p.1 with
    | none => rfl
    | some o =>
      obtain ⟨sl, e1⟩ := k1'.slot _ o q
      have := hideAll_get l e1 (off _ o q)
      have h' : (hideAll h₁ l).get? p.1 = none := h
      rw [h'] at this; cases this

section
variable {prog : Program} {w : World} {h00 : Heap} {mg mb : Str → Option Value} {A : Around} {B : Led} {K : Frag} {C fI fT fN p₁ p₀ : Addr} {α : Type} {k : Kind α} {s : Shared}
theorem ff_make {l : Addr} {M : Value} {vs : List Value} {Q E : Value → Shared → Prop} (T : FF h00 K C fI fT fN p₁ p₀) (N : Nm2 mg mb) (e0 : Env0 h00 mg mb) (G : Gl h00 A s.heap) (hb : Has s.heap B) (hroom : A.depth + 1 < recursionLimit) (hl : (l, vs) ∈ B)
    (hQ : ∀ s' x dx I, Stp A B s B s' → s'.heap.get? x = some (ffObj C dx M I) → s'.heap.get? dx = some emptyDict → s'.heap.get? I = some (lit l 0) → s.heap.get? x = none → s.heap.get? dx = none → s.heap.get? I = none → I ≠ x → I ≠ dx → Q (.ref x) s') :
    wpAny (model prog w) A (call (.ref C) [M, .ref l]) Q E s := by
  refine wpAny_call ?_
  obtain ⟨h, g, d, t, os⟩ := s
  have X : K.In h := T.X.keeps G.stay
  refine make_core (makes_of X T.mks) (looks_findIn X T.init) (fun self => bind_fn X self T.initF) (.inl rfl) ?_
  have k0 : ∀ b o, h.get? b = some o → ((h.push emptyDict).push (instObj C h.objs.size)).get? b = some o := fun b o e => Heap.get?_push_of_some _ (Heap.get?_push_of_some _ e)
  have hx : ((h.push emptyDict).push (instObj C h.objs.size)).get? (h.objs.size + 1) = some (instObj C h.objs.size) := by heap_get
  have hd : ((h.push emptyDict).push (instObj C h.objs.size)).get? h.objs.size = some emptyDict := by heap_get
  have nx : h.get? (h.objs.size + 1) = none := Heap.get?_none_of_le (Nat.le_succ _)
  have nd : h.get? h.objs.size = none := fresh_size _
  have own : ∀ a, h.get? a = none → h00.get? a = none ∧ a ∉ frs A ∧ ∀ q ∈ B, q.1 ≠ a := fun a ha => by
    refine ⟨?_, fun hm => ?_, fun q hq e => ?_⟩
    · cases q : h00.get? a with
      | none => rfl
      | some o => have := G.stay a o q; rw [ha] at this; cases this
    · obtain ⟨o, ho⟩ := G.mem hm
      rw [ha] at ho; cases ho
    · obtain ⟨o, ho, _⟩ := (hb q hq).1
      rw [e, ha] at ho; cases ho
  have hb' : Has ((h.push emptyDict).push (instObj C h.objs.size)) B := fun p hp => (hb p hp).keeps fun o e => k0 _ o e
  have G' : Gl h00 A ((h.push emptyDict).push (instObj C h.objs.size)) := G.kp (.of_keeps k0)
  refine ff_init (mg := mg) (mb := mb) (K := K) (dx := h.objs.size) (vs := vs) (B := B) T N e0 (G'.around ?_) hb' (by exact hroom) hl (fun p hp => ?_) (Nat.succ_ne_self _) fun s' I y h1 h2 h3 h4 h5 h6 => ?_
  · rfl
  · simp only [List.mem_cons, List.not_mem_nil, or_false] at hp
    rcases hp with rfl | rfl
    · exact ⟨hx, own _ nx⟩
    · exact ⟨hd, own _ nd⟩
  · refine hQ s' _ _ I (Stp.unhid (s₁ := ⟨(h.push emptyDict).push (instObj C h.objs.size), g, d, t, os⟩) (l := [h.objs.size + 1, h.objs.size]) ⟨_, _, rfl⟩ k0 (fun a ha => ?_) (y.around rfl)) h1 h2 h3 nx nd ?_ h5 h6
    · simp only [List.mem_cons, List.not_mem_nil, or_false] at ha
      rcases ha with rfl | rfl
      · exact nx
      · exact nd
    · cases q : h.get? I with
      | none => rfl
      | some o => have := k0 _ _ q; rw [h4] at this; cases this
open Classical in
theorem filter_meets {f : Addr} {ann : Option Addr} {pm cd doc : Value} {v v₂ : Value} {xs ys : List α} (D : IsDef h00 f (fdT 4 ann pm cd doc) (dBody (topOf 4))) (T : FF h00 K C fI fT fN p₁ p₀) (hC : mg "filterfalse" = some (.ref C)) (hkC : keepIn K (.ref C) = true) (N : Nm2 mg mb) (e0 : Env0 h00 mg mb) (G : Gl h00 A s.heap) (hb : Has s.heap B) (R : Room A 3 (k.deep + 15))
    (hv : k.list.rel B v xs) (hv₂ : k.list.rel B v₂ ys) (hsz : xs.length ≤ sizeLine) : Con prog w A (call (.ref f) [v, v₂]) B s (fun B' r => k.list.rel B' r (xs.filter fun a => decide (a ∉ ys))) := by
  have hv' := hv
  have hv₂' := hv₂
  obtain ⟨l, vs, rfl, hl, hxs⟩ := hv'
  obtain ⟨sk, ws, rfl, hsk, hws⟩ := hv₂'
  refine call_def (binds := [("flist", .ref l), ("skip", .ref sk)]) e0 G hb D (by have := R.dp; omega) (by with_unfolding_all rfl) ?_ fun s₁ L F => ?_
  · intro x hx
    simp only [List.mem_cons, List.not_mem_nil, or_false] at hx
    rcases hx with rfl | rfl <;> exact .inl (by rfl)
  have R' : Room (A.deeper (callEnvC (fdT 4 ann pm cd doc) L f)) 2 (k.deep + 12) := R.deeper _
  have h1 : (bindL (callEnvC (fdT 4 ann pm cd doc) L f).kindOf [("flist", .ref l), ("skip", .ref sk)] fun _ => none) "flist" = some (.ref l) := by rfl
  have h2 : (bindL (callEnvC (fdT 4 ann pm cd doc) L f).kindOf [("flist", .ref l), ("skip", .ref sk)] fun _ => none) "skip" = some (.ref sk) := by rfl
  generalize (bindL (callEnvC (fdT 4 ann pm cd doc) L f).kindOf [("flist", .ref l), ("skip", .ref sk)] fun _ => none) = m at F h1 h2
  refine wpAny_execs_cons (wpAny_Return_some ?_)
  refine callT1 (fun Q' hq => F.rd.name_b N.list.1 N.list.2 hq) ?_
  refine callF2 (f := .ref C) (Callee.of_K T.X hkC) (fun Q' hq => F.rd.name_g hC hq) ?_
  refine Attribute_name (F.rd.name_l h2 (bc_get (F.rd.has _ hsk) fun tk => ?_))
  have F₁ := (F.push (o := bcObj sk) rfl).lt tk
  have hun : s₁.heap.get? s₁.heap.objs.size = none := fresh_size _
  have y₁ : Stp (A.deeper (callEnvC (fdT 4 ann pm cd doc) L f)) B s₁ B { s₁ with heap := s₁.heap.push (bcObj sk), toks := tk } := .keeps F.rd.has fun b o e => Heap.get?_push_of_some _ e
  generalize hu : s₁.heap.objs.size = u at F₁ hun
  generalize hs₂ : ({ s₁ with heap := s₁.heap.push (bcObj sk), toks := tk } : Shared) = s₂ at F₁ y₁
  refine F₁.rd.name_l h1 ⟨F₁.rd.gl.stay, ?_⟩
  refine ff_make (A := A.deeper (callEnvC (fdT 4 ann pm cd doc) L f)) T N e0 F₁.rd.gl F₁.rd.has (by have := R'.dp; omega) hl fun s₃ x dx I y₂ g1 g2 g3 n1 n2 n3 i1 i2 => ?_
  have pu := F₁.pin (u, bcObj sk) (.head _)
  have F₂ := F₁.go y₂
  have pu₂ := F₂.pin (u, bcObj sk) (.head _)
  have old : ∀ {a : Addr}, s₂.heap.get? a = none → s₁.heap.get? a = none := fun {a} ha => by
    cases q : s₁.heap.get? a with
    | none => rfl
    | some o =>
      obtain ⟨sl, e⟩ := y₁.kp.slot a o q
      rw [ha] at e; cases e
  have Iu : I ≠ u := fun e => by rw [e, pu.1] at n3; cases n3
  have own : ∀ a, s₂.heap.get? a = none → h00.get? a = none ∧ a ∉ frs (A.deeper (callEnvC (fdT 4 ann pm cd doc) L f)) ∧ ∀ q ∈ B, q.1 ≠ a := fun a ha => by
    refine ⟨?_, fun hm => ?_, fun q hq e => ?_⟩
    · cases q : h00.get? a with
      | none => rfl
      | some o => have := F₁.rd.gl.stay a o q; rw [ha] at this; cases this
    · obtain ⟨o, ho⟩ := F₁.rd.gl.mem hm
      rw [ha] at ho; cases ho
    · obtain ⟨o, ho, _⟩ := (F₁.rd.has q hq).1
      rw [e, ha] at ho; cases ho
  have ownu : h00.get? u = none ∧ u ∉ frs (A.deeper (callEnvC (fdT 4 ann pm cd doc) L f)) ∧ ∀ q ∈ B, q.1 ≠ u := by
    refine ⟨?_, fun hm => ?_, F₁.offB (u, bcObj sk) (.head _)⟩
    · cases q : h00.get? u with
      | none => rfl
      | some o => have := F.rd.gl.stay u o q; rw [hun] at this; cases this
    · obtain ⟨o, ho⟩ := F.rd.gl.mem hm
      rw [hun] at ho; cases ho
  refine list_ff (A := A.deeper (callEnvC (fdT 4 ann pm cd doc) L f)) (k := k) (oI := lit l 0) (x := x) (dx := dx) (I := I) (u := u) T N e0 F₂.rd.gl F₂.rd.has (by exact ⟨R'.hh, by have := R'.dp; omega, by have := R'.un; omega⟩) hl hxs hv₂ hsz (fun p hp => ?_) ⟨rfl, rfl⟩ ?_ fun s₄ Dd acc y₃ hacc => ?_
  · simp only [List.mem_cons, List.not_mem_nil, or_false] at hp
    rcases hp with rfl | rfl | rfl | rfl
    · exact ⟨g3, own _ n3⟩
    · exact ⟨g1, own _ n1⟩
    · exact ⟨g2, own _ n2⟩
    · exact ⟨pu₂.1, ownu⟩
  · simp only [List.mem_cons, List.not_mem_nil, or_false, not_or]
    exact ⟨i1, i2, Iu⟩
  · have y : Stp (A.deeper (callEnvC (fdT 4 ann pm cd doc) L f)) B s₁ ((Dd, acc) :: B) s₄ := Stp.unhid' (y₁.trans y₂) (fun a ha => by
      simp only [List.mem_cons, List.not_mem_nil, or_false] at ha
      rcases ha with rfl | rfl | rfl | rfl
      · exact old n3
      · exact old n1
      · exact old n2
      · exact hun) y₃
    have F₄ := F.go y
    exact ⟨_, F₄.stp, Dd, acc, rfl, .head _, hacc.mono fun _ _ h => k.mono (fun _ h => .tail _ h) h⟩
end
end Mine

end
section
open PySem PySem.W PyProof.Rows PySem.Calls
set_option Elab.async false
set_option autoImplicit false
set_option linter.unusedVariables false
set_option maxRecDepth 100000
namespace Mine
namespace CE
variable {prog : Program} {w : World} {A : Around} {env : Env} {h00 : Heap} {mg mb : Str → Option Value} {m cm : Str → Option Value} {B B' : Led} {s s' : Shared} {l r e : PySem.Expr} {n : Str} {np pos : Pos} {P P₁ P₂ P₃ : Led → Value → Prop} {α : Type} {k : Kind α} {f : Value}
theorem call1 (R : Rd h00 mg mb A env m cm B s.heap) (C : Callee prog w h00 f) (hv : mg n = some f) (a : CE prog w A env l B s P₁)
    (h : ∀ v B' s', Gl h00 A s'.heap → Has s'.heap B' → (∀ p ∈ B, p ∈ B') → P₁ B' v → Con prog w A (call f [v]) B' s' P)
    (hg : env.globals = mainGlobals := by rfl) (hk : env.scope.kind = .function := by rfl) (hl : env.kindOf n = some .globalImplicit := by rfl) (hd : (n == ("__debug__" : Str)) = false := by decide) (he : starEach [l] env = [(false, eval l env)] := by rfl) :
    CE prog w A env (.Call (.Name n np) [l] [] pos) B s P := fun B' s' y =>
  callF1 C (fun Q' hq => (R.stp y).name_g hv hq hg hk hl hd) ((a _ _ y).use fun v B₁ s₁ y₁ h₁ => by
    have R₂ := (R.stp y).stp y₁
    exact ⟨R₂.gl.stay, Con.from y₁ (h v B₁ s₁ R₂.gl R₂.has (fun p hp => y₁.sub p (y.sub p hp)) h₁)⟩) he
theorem call2 (R : Rd h00 mg mb A env m cm B s.heap) (C : Callee prog w h00 f) (hv : mg n = some f) (a : CE prog w A env l B s P₁) (b : CE prog w A env r B s P₂) (mono : ∀ B B' v, (∀ p ∈ B, p ∈ B') → P₁ B v → P₁ B' v)
    (h : ∀ v u B' s', Gl h00 A s'.heap → Has s'.heap B' → (∀ p ∈ B, p ∈ B') → P₁ B' v → P₂ B' u → Con prog w A (call f [v, u]) B' s' P)
    (hg : env.globals = mainGlobals := by rfl) (hk : env.scope.kind = .function := by rfl) (hl : env.kindOf n = some .globalImplicit := by rfl) (hd : (n == ("__debug__" : Str)) = false := by decide) (he : starEach [l, r] env = [(false, eval l env), (false, eval r env)] := by rfl) :
    CE prog w A env (.Call (.Name n np) [l, r] [] pos) B s P := fun B' s' y =>
  callF2 C (fun Q' hq => (R.stp y).name_g hv hq hg hk hl hd) ((a _ _ y).use fun v B₁ s₁ y₁ h₁ => (b _ _ (y.trans y₁)).use fun u B₂ s₂ y₂ h₂ => by
    have R₂ := ((R.stp y).stp y₁).stp y₂
    exact ⟨R₂.gl.stay, Con.from (y₁.trans y₂) (h v u B₂ s₂ R₂.gl R₂.has (fun p hp => y₂.sub p (y₁.sub p (y.sub p hp))) (mono _ _ _ y₂.sub h₁) h₂)⟩) he
theorem call3 {e₃ : PySem.Expr} (R : Rd h00 mg mb A env m cm B s.heap) (C : Callee prog w h00 f) (hv : mg n = some f) (a : CE prog w A env l B s P₁) (b : CE prog w A env r B s P₂) (c : CE prog w A env e₃ B s P₃) (mono : ∀ B B' v, (∀ p ∈ B, p ∈ B') → P₁ B v → P₁ B' v) (mono₂ : ∀ B B' v, (∀ p ∈ B, p ∈ B') → P₂ B v → P₂ B' v)
    (h : ∀ v u t B' s', Gl h00 A s'.heap → Has s'.heap B' → (∀ p ∈ B, p ∈ B') → P₁ B' v → P₂ B' u → P₃ B' t → Con prog w A (call f [v, u, t]) B' s' P)
    (hg : env.globals = mainGlobals := by rfl) (hk : env.scope.kind = .function := by rfl) (hl : env.kindOf n = some .globalImplicit := by rfl) (hd : (n == ("__debug__" : Str)) = false := by decide) (he : starEach [l, r, e₃] env = [(false, eval l env), (false, eval r env), (false, eval e₃ env)] := by rfl) :
    CE prog w A env (.Call (.Name n np) [l, r, e₃] [] pos) B s P := fun B' s' y =>
  callF3 C (fun Q' hq => (R.stp y).name_g hv hq hg hk hl hd) ((a _ _ y).use fun v B₁ s₁ y₁ h₁ => (b _ _ (y.trans y₁)).use fun u B₂ s₂ y₂ h₂ => (c _ _ ((y.trans y₁).trans y₂)).use fun t B₃ s₃ y₃ h₃ => by
    have R₂ := (((R.stp y).stp y₁).stp y₂).stp y₃
    exact ⟨R₂.gl.stay, Con.from ((y₁.trans y₂).trans y₃) (h v u t B₃ s₃ R₂.gl R₂.has (fun p hp => y₃.sub p (y₂.sub p (y₁.sub p (y.sub p hp)))) (mono _ _ _ (fun p hp => y₃.sub p (y₂.sub p hp)) h₁) (mono₂ _ _ _ y₃.sub h₂) h₃)⟩) he
/-- a built-in function's call -/
theorem callB {id : String} (R : Rd h00 mg mb A env m cm B s.heap) (hm : mg n = none) (hb : mb n = some (.builtin id)) (a : CE prog w A env l B s P₁)
    (h : ∀ v B' s', Gl h00 A s'.heap → Has s'.heap B' → (∀ p ∈ B, p ∈ B') → P₁ B' v → Con prog w A (call (.builtin id) [v]) B' s' P)
    (hg : env.globals = mainGlobals := by rfl) (hbb : env.builtins = builtinsNs := by rfl) (hk : env.scope.kind = .function := by rfl) (hl : env.kindOf n = some .globalImplicit := by rfl) (hd : (n == ("__debug__" : Str)) = false := by decide) (he : starEach [l] env = [(false, eval l env)] := by rfl) :
    CE prog w A env (.Call (.Name n np) [l] [] pos) B s P := fun B' s' y =>
  callB1 (fun Q' hq => (R.stp y).name_b hm hb hq hg hbb hk hl hd) ((a _ _ y).use fun v B₁ s₁ y₁ h₁ => by
    have R₂ := (R.stp y).stp y₁
    exact Con.from y₁ (h v B₁ s₁ R₂.gl R₂.has (fun p hp => y₁.sub p (y.sub p hp)) h₁)) he
end CE

/-! sorting -/
def msort (xs : List Int) : List Int := xs.mergeSort (fun a b => decide (a ≤ b))
theorem sorted_unique : ∀ {xs ys : List Int}, xs.Perm ys → xs.Pairwise (· ≤ ·) → ys.Pairwise (· ≤ ·) → xs = ys
  | [], ys, p, _, _ => (List.nil_perm.mp p).symm
  | x :: xs, [], p, _, _ => by cases List.perm_nil.mp p
  | x :: xs, y :: ys, p, hx, hy => by
    rw [List.pairwise_cons] at hx hy
    have e : x = y := by
      have h1 : x ∈ y :: ys := p.subset (.head _)
      have h2 : y ∈ x :: xs := p.symm.subset (.head _)
      rcases List.mem_cons.mp h1 with e | h1
      · exact e
      · rcases List.mem_cons.mp h2 with e | h2
        · exact e.symm
        · exact Int.le_antisymm (hx.1 y h2) (hy.1 x h1)
    subst e
    rw [sorted_unique ((List.perm_cons x).mp p) hx.2 hy.2]
theorem msort_sorted (xs : List Int) : (msort xs).Pairwise (· ≤ ·) := by
  have h := List.pairwise_mergeSort (le := fun a b : Int => decide (a ≤ b)) (fun a b c h1 h2 => by simp at *; omega) (fun a b => by simp; omega) xs
  exact h.imp fun h => by simpa using h
theorem msort_perm (xs : List Int) : (msort xs).Perm xs := List.mergeSort_perm xs _

theorem con_sorted {prog : Program} {w : World} {A : Around} {B : Led} {s : Shared} {v : Value} {xs : List Int} (hb : Has s.heap B) (hv : kInt.list.rel B v xs) (hsz : xs.length < 64) : Con prog w A (call (.builtin "sorted") [v]) B s (fun B v => kInt.list.rel B v (msort xs)) :=
  sorted_ hb hv hsz fun v' B' s' ys y h p q => ⟨B', y, by rwa [← sorted_unique (p.trans (msort_perm xs).symm) q (msort_sorted xs)]⟩
end Mine

end
section
open PySem PySem.W PyProof.Rows PySem.Calls
set_option Elab.async false
set_option autoImplicit false
set_option linter.unusedVariables false
set_option maxRecDepth 100000
namespace Mine

/-- _filter, to be called -/
def Fil (prog : Program) (w : World) (h00 : Heap) (mg : Str → Option Value) : Prop :=
  ∃ f, mg "_filter" = some (.ref f) ∧ Callee prog w h00 (.ref f) ∧ ∀ {α : Type} (k : Kind α) (A : Around) (B : Led) (s : Shared) (v v₂ : Value) (xs ys : List α) (p : α → Bool), Gl h00 A s.heap → Has s.heap B → Room A 3 (k.deep + 15) →
    k.list.rel B v xs → k.list.rel B v₂ ys → xs.length ≤ sizeLine → (∀ a, p a = true ↔ a ∉ ys) → Con prog w A (call (.ref f) [v, v₂]) B s (fun B' r => k.list.rel B' r (xs.filter p))

def without {α : Type} [DecidableEq α] (xs ys : List α) : List α := xs.filter fun a => decide (a ∉ ys)
def madeL (one other : List Int) (yes no : Int) : List Int := msort (without (one ++ without other one) [yes, no])
def turnedL (made : List Int) : List Int := made.map fun s => s + 1 - s.fmod 2 * 2
def stepL (yes no : Int) (one : List Int) (left : List (List Int)) (other : List Int) : List (List Int) :=
  let made := madeL one other yes no
  if without (turnedL made) made = turnedL made then left ++ without [made] left else left
def rowL (yes no : Int) (against : List (List Int)) (left : List (List Int)) (one : List Int) : List (List Int) := against.foldl (stepL yes no one) left
def havingL (cs : List (List Int)) (x : Int) : List (List Int) := cs.filter fun c => decide (x ∈ c)
def struckL (cs : List (List Int)) (yes no : Int) : List (List Int) :=
  (havingL cs yes).foldl (rowL yes no (havingL cs no)) (without cs (havingL cs yes ++ havingL cs no))

theorem without_len {α : Type} [DecidableEq α] (xs ys : List α) : (without xs ys).length ≤ xs.length := List.length_filter_le _ _
theorem stepL_len (yes no : Int) (one : List Int) (left : List (List Int)) (other : List Int) : (stepL yes no one left other).length ≤ left.length + 1 := by
  unfold stepL
  dsimp only
  split
  · rw [List.length_append]
    have := without_len [madeL one other yes no] left
    simp only [List.length_singleton] at this; omega
  · omega
theorem fold_len {α β : Type} (f : List α → β → List α) (k : Nat) (h : ∀ l b, (f l b).length ≤ l.length + k) : ∀ (bs : List β) (l : List α), (bs.foldl f l).length ≤ l.length + bs.length * k := by
  intro bs
  induction bs with
  | nil => intro l; simp
  | cons b bs ih =>
    intro l
    have h1 := ih (f l b)
    have h2 := h l b
    rw [List.foldl_cons, List.length_cons, Nat.succ_mul]; omega
theorem rowL_len (yes no : Int) (against left : List (List Int)) (one : List Int) : (rowL yes no against left one).length ≤ left.length + against.length := by
  have := fold_len (stepL yes no one) 1 (stepL_len yes no one) against left
  rw [Nat.mul_one] at this; exact this

section
variable {prog : Program} {w : World} {h00 : Heap} {mg mb : Str → Option Value} {A : Around} {B : Led} {s : Shared}
theorem struck_meets {f : Addr} {ann : Option Addr} {pm cd doc : Value} {v y n : Value} {cs : List (List Int)} {yes no : Int} (D : IsDef h00 f (fdT 21 ann pm cd doc) (dBody (topOf 21))) (FO : Fil prog w h00 mg) (hso : mg "sorted" = none ∧ mb "sorted" = some (.builtin "sorted")) (e0 : Env0 h00 mg mb) (G : Gl h00 A s.heap) (hb : Has s.heap B) (R : Room A 4 20)
    (hv : kInt.list.list.rel B v cs) (hy : kInt.rel B y yes) (hn : kInt.rel B n no) (hcl : ∀ c ∈ cs, c.length ≤ 31) (hcs : cs.length ≤ 100000) (hsz : cs.length + (havingL cs yes).length * (havingL cs no).length ≤ sizeLine) :
    Con prog w A (call (.ref f) [v, y, n]) B s (fun B' r => kInt.list.list.rel B' r (struckL cs yes no)) := by
  refine call_def (binds := [("clauses", v), ("yes", y), ("no", n)]) e0 G hb D (by have := R.dp; omega) (by with_unfolding_all rfl) ?_ fun s₁ L F => ?_
  · intro x hx
    simp only [List.mem_cons, List.not_mem_nil, or_false] at hx
    rcases hx with rfl | rfl | rfl
    · exact .inl (by rfl)
    · exact .inr ⟨by rfl, by rfl⟩
    · exact .inr ⟨by rfl, by rfl⟩
  have R' : Room (A.deeper (callEnvC (fdT 21 ann pm cd doc) L f)) 3 17 := R.deeper _
  have h1 : (bindL (callEnvC (fdT 21 ann pm cd doc) L f).kindOf [("clauses", v), ("yes", y), ("no", n)] fun _ => none) "clauses" = some v := by rfl
  have h2 : (bindC (callEnvC (fdT 21 ann pm cd doc) L f).kindOf [("clauses", v), ("yes", y), ("no", n)] fun _ => none) "yes" = some y := by rfl
  have h3 : (bindC (callEnvC (fdT 21 ann pm cd doc) L f).kindOf [("clauses", v), ("yes", y), ("no", n)] fun _ => none) "no" = some n := by rfl
  generalize (bindL (callEnvC (fdT 21 ann pm cd doc) L f).kindOf [("clauses", v), ("yes", y), ("no", n)] fun _ => none) = m at F h1
  generalize (bindC (callEnvC (fdT 21 ann pm cd doc) L f).kindOf [("clauses", v), ("yes", y), ("no", n)] fun _ => none) = cm at F h2 h3
  have c1 : (callEnvC (fdT 21 ann pm cd doc) L f).cells.lookup ("yes" : Str) = some (L + 1) := by rfl
  have c2 : (callEnvC (fdT 21 ann pm cd doc) L f).cells.lookup ("no" : Str) = some (L + 2) := by rfl
  have hlen : cs.length ≤ sizeLine := Nat.le_trans (Nat.le_add_right _ _) hsz
  have hzl : sizeLine = 16777216 := rfl
  refine wpAny_execs_cons ?_
  refine F.filter (k := kInt.list) (cl := [("yes", L + 1)]) (p := fun c => decide (yes ∈ c)) (by rfl) (by rfl) R'.hh hlen ((CE.loc F.rd h1 hv).now F.rd.has) ?_ (fun v₁ B₁ s₂ hs₁ hv₁ F₁ => ?_) (lookup_one c1)
  · intro c vc B₂ s₃ C m₂ hc hvc hs₂ R₃
    refine wpAny_isTrue_Compare1 (R₃.name_c (c := L + 1) (by rfl) h2 (R₃.name_l upd_same ?_))
    exact in_list kInt R₃.has (kInt.mono hs₂ hy) hvc (by have := R'.un; simp only [kInt] at this ⊢; omega) (decide (yes ∈ c)) decide_eq_true_iff (wpAny_truthy_bool ⟨B₂, .refl R₃.has, rfl⟩)
  dsimp only
  refine wpAny_execs_cons ?_
  refine F₁.filter (k := kInt.list) (cl := [("no", L + 2)]) (p := fun c => decide (no ∈ c)) (by rfl) (by rfl) R'.hh hlen ((CE.loc F₁.rd (upd_get h1) (kInt.list.list.mono hs₁ hv)).now F₁.rd.has) ?_ (fun v₂ B₂ s₃ hs₂ hv₂ F₂ => ?_) (lookup_one c2)
  · intro c vc B₂ s₃ C m₂ hc hvc hs₂ R₃
    refine wpAny_isTrue_Compare1 (R₃.name_c (c := L + 2) (by rfl) h3 (R₃.name_l upd_same ?_))
    exact in_list kInt R₃.has (kInt.mono hs₂ (kInt.mono hs₁ hn)) hvc (by have := R'.un; simp only [kInt] at this ⊢; omega) (decide (no ∈ c)) decide_eq_true_iff (wpAny_truthy_bool ⟨B₂, .refl R₃.has, rfl⟩)
  dsimp only
  have hH : kInt.list.list.rel B₂ v₁ (havingL cs yes) := kInt.list.list.mono hs₂ hv₁
  have hA : kInt.list.list.rel B₂ v₂ (havingL cs no) := hv₂
  have lH : (havingL cs yes).length ≤ cs.length := List.length_filter_le _ _
  have lA : (havingL cs no).length ≤ cs.length := List.length_filter_le _ _
  obtain ⟨fF, hfF, cF, mF⟩ := FO
  refine wpAny_execs_cons ?_
  refine F₂.set (P := fun B v => kInt.list.list.rel B v (without cs (havingL cs yes ++ havingL cs no))) (CE.call2 F₂.rd cF hfF (CE.loc F₂.rd (upd_get (upd_get h1)) (kInt.list.list.mono hs₂ (kInt.list.list.mono hs₁ hv))) (CE.add (k := kInt.list) (CE.loc F₂.rd (upd_get upd_same) hH) (CE.loc F₂.rd upd_same hA) (by omega)) (fun _ _ _ hs h => kInt.list.list.mono hs h) fun u t B' s' G' hb' hs' hu ht => ?_) fun v₃ B₃ s₄ hs₃ hv₃ F₃ => ?_
  · exact mF kInt.list _ _ _ _ _ _ _ _ G' hb' ⟨R'.hh, R'.dp, by have := R'.un; simp only [kInt, Kind.list] at this ⊢; omega⟩ hu ht hlen fun a => by simp
  dsimp only
  generalize hL0 : without cs (havingL cs yes ++ havingL cs no) = left0 at hv₃
  have ll0 : left0.length ≤ cs.length := by rw [← hL0]; exact without_len _ _
  have hH₃ := kInt.list.list.mono hs₃ hH
  have hA₃ := kInt.list.list.mono hs₃ hA
  have hy₃ : kInt.rel B₃ y yes := kInt.mono hs₃ (kInt.mono hs₂ (kInt.mono hs₁ hy))
  have hn₃ : kInt.rel B₃ n no := kInt.mono hs₃ (kInt.mono hs₂ (kInt.mono hs₁ hn))
  have hone : ∀ c ∈ havingL cs yes, c.length ≤ 31 := fun c hc => hcl c ((List.mem_filter.mp hc).1)
  have hoth : ∀ c ∈ havingL cs no, c.length ≤ 31 := fun c hc => hcl c ((List.mem_filter.mp hc).1)
  have hstr : struckL cs yes no = (havingL cs yes).foldl (rowL yes no (havingL cs no)) left0 := by rw [struckL, hL0]
  rw [hstr]
  generalize havingL cs yes = H at *
  generalize havingL cs no = Ag at *
  have rowAt : ∀ i, ((H.take i).foldl (rowL yes no Ag) left0).length ≤ cs.length + i * Ag.length := fun i => by
    have := fold_len (rowL yes no Ag) Ag.length (fun l b => rowL_len yes no Ag l b) (H.take i) left0
    have h2 : (H.take i).length * Ag.length ≤ i * Ag.length := Nat.mul_le_mul_right _ (by rw [List.length_take]; omega)
    omega
  refine wpAny_execs_cons ?_
  refine For_ F₃ (n := H.length) (P := fun i u => ∃ x, H[i]? = some x ∧ kInt.list.rel B₃ u x) ?_
  refine F₃.rd.name_l (upd_get (upd_get upd_same)) ?_
  refine ⟨B₃, F₃, Src.rel R'.hh F₃.rd.has hH₃, fun i m₁ cm₁ B₄ => (∃ u, m₁ "left" = some u ∧ kInt.list.list.rel B₄ u ((H.take i).foldl (rowL yes no Ag) left0)) ∧ m₁ "against" = some v₂ ∧ cm₁ "yes" = some y ∧ cm₁ "no" = some n, ⟨⟨v₃, upd_same, hv₃⟩, upd_get upd_same, h2, h3⟩, ?_, ?_⟩
  · rintro i vo m₁ cm₁ Z₁ B₄ s₅ hi ⟨one, hone', hvo⟩ hs₄ ⟨⟨u₀, g1, hu₀⟩, g2, g3, g4⟩ F₄ _
    have ho31 := hone one (List.mem_of_getElem? hone')
    generalize hLi : (H.take i).foldl (rowL yes no Ag) left0 = lefti at hu₀
    have lli : lefti.length ≤ cs.length + i * Ag.length := by rw [← hLi]; exact rowAt i
    have hmul : (i + 1) * Ag.length ≤ H.length * Ag.length := Nat.mul_le_mul_right _ hi
    rw [Nat.succ_mul] at hmul
    have hA₄ := kInt.list.list.mono hs₄ hA₃
    refine wpAny_execs_cons ?_
    refine For_ F₄ (n := Ag.length) (P := fun i u => ∃ x, Ag[i]? = some x ∧ kInt.list.rel B₄ u x) ?_
    refine F₄.rd.name_l (upd_get g2) ?_
    refine ⟨B₄, F₄, Src.rel R'.hh F₄.rd.has hA₄, fun j m₂ cm₂ B₅ => (∃ u, m₂ "left" = some u ∧ kInt.list.list.rel B₅ u ((Ag.take j).foldl (stepL yes no one) lefti)) ∧ m₂ "against" = some v₂ ∧ m₂ "one" = some vo ∧ cm₂ "yes" = some y ∧ cm₂ "no" = some n, ⟨⟨u₀, upd_get g1, hu₀⟩, upd_get g2, upd_same, g3, g4⟩, ?_, ?_⟩
    · rintro j vt m₂ cm₂ Z₂ B₅ s₆ hj ⟨other, hoth', hvt⟩ hs₅ ⟨⟨u₁, k1, hu₁⟩, k2, k3, k4, k5⟩ F₅ _
      have hot31 := hoth other (List.mem_of_getElem? hoth')
      generalize hLj : (Ag.take j).foldl (stepL yes no one) lefti = leftj at hu₁
      have llj : leftj.length ≤ lefti.length + j := by
        rw [← hLj]
        have := fold_len (stepL yes no one) 1 (stepL_len yes no one) (Ag.take j) lefti
        simp only [List.length_take] at this; omega
      have hwo : (without other one).length ≤ other.length := without_len _ _
      have hwm : (without (one ++ without other one) [yes, no]).length ≤ (one ++ without other one).length := without_len _ _
      rw [List.length_append] at hwm
      have hvo₅ : kInt.list.rel B₅ vo one := kInt.list.mono hs₅ (kInt.list.mono hs₄ hvo)
      have hvt₅ : kInt.list.rel B₅ vt other := kInt.list.mono hs₅ hvt
      have room1 : ∀ e, Room (A.deeper e) 3 (kInt.deep + 15) := fun e => ⟨R'.hh, R'.dp, by have := R'.un; simp only [kInt]; exact Nat.lt_of_le_of_lt (by simp only [Around.deeper_units]; omega) this⟩
      refine wpAny_execs_cons ?_
      refine F₅.set (P := fun B v => kInt.list.rel B v (madeL one other yes no)) (CE.callB F₅.rd hso.1 hso.2 (CE.call2 (P := fun B v => kInt.list.rel B v (without (one ++ without other one) [yes, no])) F₅.rd cF hfF
          (CE.add (k := kInt) (CE.loc F₅.rd (upd_get k3) hvo₅) (CE.call2 (P := fun B v => kInt.list.rel B v (without other one)) F₅.rd cF hfF (CE.loc F₅.rd upd_same hvt₅) (CE.loc F₅.rd (upd_get k3) hvo₅) (fun _ _ _ hs h => kInt.list.mono hs h) fun u t B' s' G' hb' hs' hu ht => ?_) (by omega))
          (CE.two (k := kInt) (CE.cel F₅.rd (c := L + 1) (by rfl) k4 (kInt.mono hs₅ (kInt.mono hs₄ hy₃))) (CE.cel F₅.rd (c := L + 2) (by rfl) k5 (kInt.mono hs₅ (kInt.mono hs₄ hn₃)))) (fun _ _ _ hs h => kInt.list.mono hs h) fun u t B' s' G' hb' hs' hu ht => ?_) fun u B' s' G' hb' hs' hu => ?_) fun v₆ B₆ s₇ hs₆ hv₆ F₆ => ?_
      · exact mF kInt _ _ _ _ _ _ _ _ G' hb' (room1 _) hu ht (by omega) fun a => by simp
      · exact mF kInt _ _ _ _ _ _ _ _ G' hb' (room1 _) hu ht (by rw [List.length_append]; omega) fun a => by simp
      · exact con_sorted hb' hu (by omega)
      dsimp only
      have lmade : (madeL one other yes no).length ≤ 62 := by
        rw [madeL, (msort_perm _).length_eq]; omega
      generalize hmd : madeL one other yes no = made at hv₆ lmade
      refine wpAny_execs_cons ?_
      refine F₆.map (k := kInt) (k' := kInt) (cl := []) (xs := made) (g := fun s => s + 1 - s.fmod 2 * 2) (by rfl) (by rfl) R'.hh (by omega) ((CE.loc F₆.rd upd_same hv₆).now F₆.rd.has) ?_ (fun v₇ B₇ s₈ hs₇ hv₇ F₇ => ?_) (fun _ _ h => (nomatch h))
      · intro c vc B₂ s₃ C m₂ hc hvc hs₂ R₃
        obtain ⟨t, rfl⟩ := hvc
        exact IE.use (.sub (.add (.loc R₃ ⟨t, upd_same⟩) .cst) (.mul (.mod (.loc R₃ ⟨t, upd_same⟩) .cst (by decide)) .cst)) fun t' tk => ⟨B₂, .keeps R₃.has fun _ _ e => e, t', rfl⟩
      dsimp only
      have hmade₇ := kInt.list.mono hs₇ hv₆
      have hvT : kInt.list.rel B₇ v₇ (turnedL made) := hv₇
      have lT : (turnedL made).length ≤ 62 := by rw [turnedL, List.length_map]; exact lmade
      refine wpAny_execs_cons (wpAny_If (wpAny_isTrue_Compare1 ?_))
      refine ((CE.call2 (P := fun B v => kInt.list.rel B v (without (turnedL made) made)) F₇.rd cF hfF (CE.loc F₇.rd upd_same hvT) (CE.loc F₇.rd (upd_get upd_same) hmade₇) (fun _ _ _ hs h => kInt.list.mono hs h) fun u t B' s' G' hb' hs' hu ht => ?_).now F₇.rd.has).use fun v₈ B₈ s₉ y₈ hv₈ => ?_
      · exact mF kInt _ _ _ _ _ _ _ _ G' hb' (room1 _) hu ht (by omega) fun a => by simp
      have F₈ := F₇.go y₈
      refine F₈.rd.name_l upd_same ?_
      refine eq_lists kInt F₈.rd.has hv₈ (kInt.list.mono y₈.sub hvT) (by have := R'.un; simp only [kInt] at this ⊢; omega) (decide (without (turnedL made) made = turnedL made)) decide_eq_true_iff (wpAny_truthy_bool ?_)
      have hst : (Ag.take (j + 1)).foldl (stepL yes no one) lefti = stepL yes no one leftj other := by
        rw [List.take_add_one, hoth', List.foldl_append, hLj]; rfl
      by_cases htaut : without (turnedL made) made = turnedL made
      · rw [decide_eq_true htaut]
        refine wpAny_execs_cons ?_
        have hsub : ∀ p ∈ B₅, p ∈ B₈ := fun p hp => y₈.sub p (hs₇ p (hs₆ p hp))
        refine F₈.set (P := fun B v => kInt.list.list.rel B v (leftj ++ without [made] leftj)) (CE.add (k := kInt.list) (CE.loc F₈.rd (upd_get (upd_get (upd_get k1))) (kInt.list.list.mono hsub hu₁)) (CE.call2 (P := fun B v => kInt.list.list.rel B v (without [made] leftj)) F₈.rd cF hfF (CE.one (k := kInt.list) (CE.loc F₈.rd (upd_get upd_same) (kInt.list.mono y₈.sub hmade₇))) (CE.loc F₈.rd (upd_get (upd_get (upd_get k1))) (kInt.list.list.mono hsub hu₁)) (fun _ _ _ hs h => kInt.list.list.mono hs h) fun u t B' s' G' hb' hs' hu ht => ?_) ?_) fun v₉ B₉ s₁₀ hs₉ hv₉ F₉ => ?_
        · exact mF kInt.list _ _ _ _ _ _ _ _ G' hb' ⟨R'.hh, R'.dp, by have := R'.un; simp only [kInt, Kind.list] at this ⊢; omega⟩ hu ht (by simp [sizeLine]) fun a => by simp
        · have := without_len [made] leftj
          simp only [List.length_singleton] at this
          omega
        dsimp only
        refine wpAny_execs_nil (wpAny_execs_nil ?_)
        refine ⟨_, _, B₉, fun p hp => hs₉ p (hsub p hp), ⟨⟨v₉, upd_same, ?_⟩, upd_get (upd_get (upd_get (upd_get k2))), upd_get (upd_get (upd_get (upd_get k3))), k4, k5⟩, F₉⟩
        rw [hst, stepL]
        rw [hmd, if_pos htaut]
        exact hv₉
      · rw [decide_eq_false htaut]
        refine wpAny_execs_nil (wpAny_execs_nil ?_)
        have hsub : ∀ p ∈ B₅, p ∈ B₈ := fun p hp => y₈.sub p (hs₇ p (hs₆ p hp))
        refine ⟨_, _, B₈, hsub, ⟨⟨u₁, upd_get (upd_get (upd_get k1)), ?_⟩, upd_get (upd_get (upd_get k2)), upd_get (upd_get (upd_get k3)), k4, k5⟩, F₈⟩
        rw [hst, stepL]
        rw [hmd, if_neg htaut]
        exact kInt.list.list.mono hsub hu₁
    · rintro m₂ cm₂ B₅ s₆ hs₅ ⟨⟨u₁, k1, hu₁⟩, k2, k3, k4, k5⟩ F₅
      dsimp only
      refine wpAny_execs_nil ?_
      refine ⟨_, _, B₅, hs₅, ⟨⟨u₁, k1, ?_⟩, k2, k4, k5⟩, F₅⟩
      rw [List.take_length] at hu₁
      rw [List.take_add_one, hone', List.foldl_append, hLi]
      exact hu₁
  · rintro m₁ cm₁ B₄ s₅ hs₄ ⟨⟨u₀, g1, hu₀⟩, _⟩ F₄
    dsimp only
    refine wpAny_execs_cons ?_
    rw [List.take_length] at hu₀
    exact F₄.ret (.loc F₄.rd g1 hu₀) fun v B' s' _ hv F₅ => ⟨B', F₅.stp, hv⟩
end
end Mine

end
section
open PySem PySem.W PyProof.Rows PySem.Calls
set_option Elab.async false
set_option autoImplicit false
set_option linter.unusedVariables false
set_option maxRecDepth 100000
namespace Mine
open Sem (wp)
def badIds : List String := Builtin.Bytes.decodersThatHold ++ ["bytearray.__contains__", "bytearray.__mod__", "bytearray.__rmod__", "_struct.pack_into.held", "bytearray.find.held"]
def fineC : Code → Bool
  | .builtin id _ => !badIds.contains id
  | _ => true
/-- nothing on the stack holds a bytearray -/
def Clean (Γ : Ctx) : Prop := fineC Γ.code = true ∧ ∀ x ∈ Γ.below, fineC x.1 = true
def CleanB (Γ : Ctx) : Prop := ∀ x ∈ Γ.below, fineC x.1 = true

def wpC {α : Type} (M : Model) (A : Around) (t : Sem α) (Q : α → Shared → Prop) (E : Value → Shared → Prop) (s : Shared) : Prop :=
  ∀ Γ p, Γ.In A → Clean Γ → wp M Γ t (fun a _ s' => Q a s') (fun e _ s' => E e s') p s
def codeC (M : Model) (A : Around) (c : Code) (R : Result → Shared → Prop) (s : Shared) : Prop :=
  ∀ Γ p, Γ.code = c → Γ.Below A → CleanB Γ → wpCode M Γ R p s

section
variable {α β : Type} {M : Model} {A : Around} {E : Value → Shared → Prop} {s : Shared}
theorem wpC.any {t : Sem α} {Q : α → Shared → Prop} (h : wpAny M A t Q E s) : wpC M A t Q E s := fun Γ p hΓ _ => h Γ p hΓ
theorem wpC_mono {t : Sem α} {Q Q' : α → Shared → Prop} {E' : Value → Shared → Prop} (h : wpC M A t Q E s) (hQ : ∀ a s, Q a s → Q' a s) (hE : ∀ e s, E e s → E' e s) : wpC M A t Q' E' s :=
  fun Γ p hΓ c => Sem.wp_mono M Γ t (fun a _ s => hQ a s) (fun e _ s => hE e s) p s (h Γ p hΓ c)
theorem wpC_bind {m : Sem α} {f : α → Sem β} {Q : β → Shared → Prop} (h : wpC M A m (fun a s' => wpC M A (f a) Q E s') E s) : wpC M A (m >>= f) Q E s := fun Γ p hΓ c => by
  rw [Sem.wp_bind']
  exact Sem.wp_mono M Γ m (fun a p' s' h' => h' Γ p' hΓ c) (fun _ _ _ h' => h') p s (h Γ p hΓ c)
/-- a plain step first -/
theorem wpC_bindA {m : Sem α} {f : α → Sem β} {Q : β → Shared → Prop} (h : wpAny M A m (fun a s' => wpC M A (f a) Q E s') E s) : wpC M A (m >>= f) Q E s := wpC_bind (.any h)
theorem wpC_pure {a : α} {Q : α → Shared → Prop} (h : Q a s) : wpC M A (pure a) Q E s := fun _ _ _ _ => h
theorem wpC_holding {vs : List Value} {m : Sem α} {Q : α → Shared → Prop} (h : wpC M A m Q E s) : wpC M A (holding vs m) Q E s :=
  fun Γ p hΓ c => by rw [Sem.wp_holding]; exact h Γ p hΓ c
theorem wpC_onRaise {m : Sem α} {k : Value → Sem Unit} {Q : α → Shared → Prop}
    (h : wpC M A m Q (fun e s' => wpAny M A (k e) (fun _ s'' => E e s'') E s') s) : wpC M A (m.onRaise k) Q E s := fun Γ p hΓ c => by
  rw [Sem.wp_onRaise]
  exact Sem.wp_mono M Γ m (fun _ _ _ h' => h') (fun e p' s' h' => h' Γ p' hΓ) p s (h Γ p hΓ c)
theorem wpC_runValue {c : Code} {Q : Value → Shared → Prop}
    (hc : codeC M A c (fun r s' => match r with | .ok (.ret v) => Q v s' | .ok _ => False | .error e => E e s') s) : wpC M A (runValue c) Q E s := fun Γ p hΓ cl => by
  rw [Sem.wp_runValue]
  refine hc _ p rfl (hΓ.enter c none p (by intro x; cases x)) fun x hx => ?_
  rcases List.mem_cons.mp hx with rfl | hx
  · exact cl.1
  · exact cl.2 x hx
theorem wpC_call {f : Value} {pos : List Value} {kw : List (Str × Value)} {Q : Value → Shared → Prop}
    (hc : codeC M A (.call f ⟨pos, kw⟩) (fun r s' => match r with | .ok (.ret v) => Q v s' | .ok _ => False | .error e => E e s') s) : wpC M A (call f pos kw) Q E s := wpC_runValue hc
theorem codeC.any {c : Code} {R : Result → Shared → Prop} (h : codeAny M A c R s) : codeC M A c R s := fun Γ p hc hΓ _ => h Γ p hc hΓ
theorem codeC_mono {c : Code} {R R' : Result → Shared → Prop} (h : codeC M A c R s) (hR : ∀ r s, R r s → R' r s) : codeC M A c R' s :=
  fun Γ p hc hΓ cl => wpCode_mono hR (h Γ p hc hΓ cl)
theorem codeC_of_tree {c : Code} {R : Result → Shared → Prop} (hf : fineC c = true)
    (h : wpC M (A.under c) (M.den c) (fun fin s' => match fin with | .done f => R (.ok f) s' | .again c' => c'.quiet = true ∧ codeC M A c' R s') (fun e s' => R (.error e) s') s) : codeC M A c R s := fun Γ p hc hΓ cl => by
  rw [wpCode_iff_wp, hc]
  refine Sem.wp_mono M Γ _ (fun fin p' s' h' => ?_) (fun _ _ _ h' => h') p s (h Γ p (hc ▸ hΓ.in) ⟨hc ▸ hf, cl⟩)
  cases fin with
  | done f => exact h'
  | again c' => exact ⟨h'.1, h'.2 (Γ.goto c') p' rfl (hΓ.goto c') cl⟩
end

section
variable {prog : Program} {w : World} {A : Around} {E : Value → Shared → Prop} {s : Shared} {R : Result → Shared → Prop}
theorem codeC_builtin {id : String} {args : Args} {b : Builtin} (hf : fineC (.builtin id args) = true) (hb : entryFor table id = some b)
    (h : wpC (model prog w) (A.under (.builtin id args)) (b args) (fun fin s' => match fin with | .done f => R (.ok f) s' | .again c' => c'.quiet = true ∧ codeC (model prog w) A c' R s') (fun e s' => R (.error e) s') s) :
    codeC (model prog w) A (.builtin id args) R s := by
  refine codeC_of_tree hf ?_
  show wpC _ _ (match entryFor table id with | some b => b args | none => unsupported ((withoutEnding? id "#data").getD id)) _ _ s
  rw [hb]; exact h
theorem codeC_call_builtin {id : String} {args : Args} (hq : (Code.builtin id args).quiet = true)
    (h : wpAny (model prog w) A.in1 (checkBuiltinCall id args) (fun _ s₁ => codeC (model prog w) A (.builtin id args) R s₁) (fun e s' => R (.error e) s') s) : codeC (model prog w) A (.call (.builtin id) args) R s := by
  refine codeC_of_tree rfl ?_
  show wpC _ A.in1 (do checkBuiltinCall id args; again (.builtin id args)) _ _ s
  exact wpC_bindA (wpAny_mono h (fun _ s₁ h₁ => wpC_pure (And.intro hq h₁)) fun _ _ h' => h')
theorem codeC_func {body : List Stmt} {env : Env}
    (h : wpC (model prog w) (A.deeper env) (execs body env) (fun f s' => R (.ok (.ret (match f with | .ret v => v | _ => .none))) s')
      (fun e s' => wpAny (model prog w) (A.deeper env) (leaving env e) (fun _ s'' => R (.error e) s'') (fun e' s'' => R (.error e') s'') s') s) :
    codeC (model prog w) A (.func body env) R s := by
  refine codeC_of_tree rfl ?_
  show wpC _ (A.deeper env) (do point; match ← (execs body env).onRaise (leaving env) with | .ret v => ret v | _ => ret .none) _ _ s
  refine wpC_bindA (wpAny_point (wpC_bind (wpC_onRaise (wpC_mono h (fun f s' h' => ?_) fun _ _ h' => h'))))
  cases f <;> exact wpC_pure h'
theorem codeC_call_function {a : Addr} {args : Args} {o : Obj} {fd : FuncData} {body : List Stmt} (hroom : A.depth < recursionLimit)
    (ho : s.heap.get? a = some o) (hd' : o.data = .func fd) (hco : fd.scope.isCoroutine = false) (hgen : fd.scope.isGenerator = false) (hbody : fd.body = .stmts body) (hcd : s.heap.CodeRec fd.code fd.qualname)
    (h : wpAny (model prog w) A.in1 (bindArgs fd args) (fun binds s₁ =>
      wpAny (model prog w) A.in1 (newFunctionEnv fd.scope fd.globals fd.closure binds (fd.qualname ++ ".<locals>.") (some a) fd.code none fd.builtins)
        (fun env s₂ => s₂.heap.NoLimit ∧ codeC (model prog w) A (.func body env) R s₂) (fun e s' => R (.error e) s') s₁) (fun e s' => R (.error e) s') s) :
    codeC (model prog w) A (.call (.ref a) args) R s := by
  refine codeC_of_tree rfl ?_
  refine .any ?_
  show wpAny _ A.in1 (callAny (.ref a) args) _ _ s
  simp only [callAny]
  refine wpAny_bind (wpAny_load ho ?_)
  obtain ⟨c, oc, vs, tq, hc, hoc, hdc, hq⟩ := hcd
  simp only [hd', callFunction, hco, hgen, hbody, hc]
  rw [hc] at h
  refine wpAny_bind (m := field (.ref c) 1) (wpAny_field hoc hdc hq (wpAny_bind (wpAny_pure ?_)))
  exact wpAny_bind (wpAny_mono h (fun binds s₁ h₁ => wpAny_bind (wpAny_mono h₁ (fun env s₂ h₂ => wpAny_bind (wpAny_enterFrame h₂.1 hroom
    (wpAny_pure (And.intro rfl h₂.2)))) fun _ _ h' => h')) fun _ _ h' => h')
end
end Mine

end
section
open PySem PySem.W PyProof.Rows PySem.Calls
set_option Elab.async false
set_option autoImplicit false
set_option linter.unusedVariables false
set_option maxRecDepth 100000
set_option maxHeartbeats 8000000
namespace Mine
open Sem (wp)

/-! from the root: one context, whose stack is clean -/
theorem caller_clean : Clean ⟨.builtin "claim.caller" {}, none, none, [], none⟩ := ⟨by decide +kernel, fun _ hx => (nomatch hx)⟩

theorem thread_endsC {prog : Program} {w : World} {t : Sem Fin} {s : Shared} {R : Result → Shared → Prop} (hreg : s.asleep)
    (h : wpC (model prog w) callerA t (fun fin s' => ∃ f, fin = .done f ∧ (R (.ok f) s' ∧ leftWithCleanup s'.gens = false)) (fun e s' => R (.error e) s' ∧ leftWithCleanup s'.gens = false) s) :
    ∃ n r s' s'', runN (denote table) prog w n s ⟨t, .builtin "claim.caller" {}, default, []⟩ = .halted (outcomeOf r) s' ∧
      schedN (denote table) prog w n (.single s ⟨t, .builtin "claim.caller" {}, default, []⟩) = .halted (outcomeOf r) s' ∧ s'.forget = s''.forget ∧ R r s'' := by
  obtain ⟨n, r, s₁, s₂, hs, hn, hfo, hR⟩ := wp_halts_full (M := model prog w) (R := R) hreg (Sem.wp_mono (model prog w) ⟨.builtin "claim.caller" {}, none, none, [], none⟩ t (fun fin p' s' h' => by
    obtain ⟨f, rfl, hf⟩ := h'
    exact hf) (fun _ _ _ h' => h') default s (h _ default caller_in caller_clean))
  exact ⟨n, r, s₂, s₁, hn, hs, hfo, hR⟩

theorem callFrom_C {c : ClaimW} {tree : List Value → Sem Fin} {w : World} {s : Shared} {free : Addr → Prop} {gens : Prop} {kept : Heap → Prop} (hz : s.asleep) (hgens : s.gens = #[])
    (hspec : ∀ args, c.pre args = true → WData.layableAll args = true →
      ∀ ord : List DictEntry → List DictEntry, (∀ l, (ord l).Perm l) →
      ∃ vs s₁, layAllW c.records (classAt s.heap) w.params ord args s = some (vs, s₁) ∧
        wpC (model c.prog w) callerA (tree vs) (fun fin s' => ∃ f, fin = .done f ∧ (c.Ends s args vs s₁ (.ok f) s' ∧ s'.os = s.os ∧ AllBare s'.gens ∧ kept s'.heap))
          (fun e s' => c.Ends s args vs s₁ (.error e) s' ∧ s'.os = s.os ∧ AllBare s'.gens ∧ kept s'.heap) s₁) :
    c.CallFrom (fun vs => ⟨tree vs, .builtin "claim.caller" {}, default, []⟩) w free gens kept s := by
  intro args hpre hlay ord hord
  obtain ⟨vs, s₁, hlaid, hcode⟩ := hspec args hpre hlay ord hord
  have hal := layAllW_rest _ _ _ hlaid
  obtain ⟨k, r, s', s'', hrun, hsched, hfo, hcase, hos, hkp⟩ := thread_endsC (prog := c.prog) (w := w) (t := tree vs) (s := s₁)
    (R := fun r s' => c.Ends s args vs s₁ r s' ∧ s'.os = s.os ∧ kept s'.heap)
    (Shared.asleep_of_life hal.2.2.2 hz)
    (wpC_mono hcode (by
      rintro fin s' ⟨f, e, h1, h2, h3, h4⟩
      exact ⟨f, e, ⟨h1, h2, h4⟩, leftWithCleanup_false_of_bare h3⟩) (by
      rintro e s' ⟨h1, h2, h3, h4⟩
      exact ⟨⟨h1, h2, h4⟩, leftWithCleanup_false_of_bare h3⟩))
  obtain ⟨eh, _, _, eo, _⟩ := Shared.forget_eq hfo
  have hcase := hcase.congr eh
  have hkp : kept s'.heap := by first | exact eh ▸ hkp | (rw [eh] at hkp; exact hkp) | (rw [← eh] at hkp; exact hkp)
  rw [← eo] at hos
  have hlife : s'.heap.life = s.heap.life := (runN_life _ _ _ hrun).trans hal.2.2.2
  refine ⟨vs, s₁, hlaid, k, _, s', hsched, ?_, (fun _ i x hx => by rw [hgens] at hx; simp at hx), hkp, by rw [hlife], Shared.rest_eq hos⟩
  rcases hcase with ⟨v, rfl, d1, d2, d3, d4, d5⟩ | ⟨e, ob, cls, rfl, d1, d2, d3, d4, d5⟩
  · exact .inl ⟨v, rfl, d1, d2, d3, fun b o y _ => d4 b o y, d5⟩
  · exact .inr ⟨e, ob, cls, rfl, d1, d2, d3, d4, fun b o y _ => d5 b o y⟩

theorem open_anyC {r : RowW} {run : Value → List Value → Sem Value} {tree : List Value → Sem Fin} {q : Program} {loose defs kps : List Str} {writes : Bool} {Xt : Shared → Bool} {XP : (Str → Option Value) → Heap → Prop} {α : Type} {Yf : Shared → α} {Ya : World → α} {YP : World → Heap → Prop} {N : Nat}
    (left : LeftO r.prog q loose Xt Yf Ya N) (hY : ∀ w s, Yf s = Ya w → YP w s.heap) (hYk : ∀ w h h', YP w h → (∀ b o, h.get? b = some o → h'.get? b = some o) → YP w h') (hX : ∀ s, Xt s = true → XP (s.heap.nsMap mainGlobals) s.heap) (hXk : ∀ mg h h', XP mg h → (∀ b o, h.get? b = some o → h'.get? b = some o) → XP mg h')
    (hRf : ∀ s, Xt s = true → RecFacts r.records s.heap) (hwr : (!writes || r.records.isEmpty) = true) (ok : (chainsOk q && opensWell r.prog && (frees r && r.within.isEmpty)) = true) (hb : r.prog.bare) (hw : r.promised)
    (ht : ∀ vs (w : World) (s : Shared) mg f (Q : Fin → Shared → Prop) (E : Value → Shared → Prop), s.heap.Ns mainGlobals mg → mg r.name = some f → wpC (model r.prog w) callerA (run f vs) (fun v s' => Q (.done (.ret v)) s') E s → wpC (model r.prog w) callerA (tree vs) Q E s)
    (pin : ∀ w s, s.heap.isNs mainGlobals = true → Ground q loose [] XP w s (s.heap.nsMap mainGlobals) (s.heap.nsMap builtinsNs) s.heap → ∀ n ∈ defs, isTheDefsW r.prog s.heap n)
    (call : ∀ (w : World) (s₀ s₁ : Shared) (mg mb : Str → Option Value), Ground q loose r.records XP w s₀ mg mb s₁.heap → YP w s₁.heap → ∀ (args : List WData) (vs : List Value) (as : List Addr),
      r.claim.pre args = true → WData.layableAll args = true → Laid r.records w s₀ s₁ args vs as → sysModules < s₀.heap.objs.size → ∃ f, mg r.name = some f ∧
        wpC (model r.prog w) callerA (run f vs) (fun v s' => GoodWG r.claim (classAt s₀.heap) (ExcName.means s₀.heap) args s₁ (.ok (.ret v)) s')
          (fun e s' => GoodWG r.claim (classAt s₀.heap) (ExcName.means s₀.heap) args s₁ (.error e) s') s₁) : r.claim.HoldsOpenBy (fun vs => ⟨tree vs, .builtin "claim.caller" {}, default, []⟩) defs kps writes := by
  obtain ⟨ok, k5⟩ := Bool.and_eq_true_iff.mp ok
  obtain ⟨hch, o1⟩ := Bool.and_eq_true_iff.mp ok
  obtain ⟨k5, k6⟩ := Bool.and_eq_true_iff.mp k5
  obtain ⟨hsame, hu, ha, hap, hm⟩ := frees_parts k5
  refine ⟨⟨hb, o1, by show r.makers.map _ = []; rw [hm]; rfl⟩, hw.witness, fun w => ⟨(left.behind hX hch w).1, fun s' hs' => ?_⟩⟩
  obtain ⟨s₀, hf, hg0, s, hT, hz, hgens, hg, G00, y⟩ := (left.behind (XP := fun mg h => XP mg h ∧ RecFacts r.records h) (fun s hs => ⟨hX s hs, hRf s hs⟩) hch w).2 s' hs'
  have G0 : Ground q loose [] XP w s (s.heap.nsMap mainGlobals) (s.heap.nsMap builtinsNs) s.heap := ⟨G00.T, G00.B, G00.D, G00.TE, G00.TD, G00.W, G00.X.1, G00.cls, G00.has, G00.apart, G00.once, G00.K⟩
  have RF := G00.X.2
  have hT' := hT
  refine ⟨s₀, hf, hg0, s, hT, pin w s hg G0, RF.1, RF.2.1, ?_⟩
  have hgens : s.gens = #[] := Array.eq_empty_of_size_eq_zero (beq_iff_eq.mp hgens)
  have G : Ground q loose r.records XP w s _ _ s.heap := RF.ground G0
  refine callFrom_C (c := r.claim) hz hgens fun args hpre hlay ord hord => ?_
  obtain ⟨⟨vs, s₁⟩, hlaid⟩ := Option.isSome_iff_exists.mp (layAllW_isSome (P := w.params) (ord := ord) G.has args r.args s (pre_splitW hpre).1)
  have keeps := layAllW_keeps _ _ _ hlaid
  have hal := layAllW_rest _ _ _ hlaid
  obtain ⟨as, hrd, hin, hold⟩ := reads_layAllW hord _ _ _ hlaid hlay s₁.heap (fun _ _ e => e)
  have L : Laid r.records w s s₁ args vs as := ⟨⟨ord, hord, hlaid⟩, hrd, hin, hold, keeps, hal.1.trans hgens, hal.2.2.1⟩
  have G₁ := G.keeps hXk keeps
  obtain ⟨f, hf, h⟩ := call w s s₁ _ _ G₁ (hYk _ _ _ (hY w s y) keeps) args vs as hpre hlay L G.low
  have hi := ident_freeW hu ha hap
  have hwi : r.claim.within = [] := List.isEmpty_iff.mp k6
  exact ⟨vs, s₁, hlaid, ht vs w s₁ _ f _ _ G₁.T.g hf (wpC_mono h (fun v s' g => ⟨_, rfl, have z := g.laid (c := r.claim) hsame hwi hi L; ⟨z.1, z.2.1, z.2.2, fun q => ⟨namesKept_of hT' hg kps keeps g.2.1.old, noTable hwr q⟩⟩⟩) fun e s' g => have z := g.laid (c := r.claim) hsame hwi hi L; ⟨z.1, z.2.1, z.2.2, fun q => ⟨namesKept_of hT' hg kps keeps g.2.1.old, noTable hwr q⟩⟩)⟩

abbrev WalkC (q : Program) (loose : List Str) (XP : (Str → Option Value) → Heap → Prop) (YP : World → Heap → Prop) (r : RowW) (d : DefRec) (kwd : List (Str × PySem.Expr)) : Prop :=
  ∀ (w : World) (s₀ s₁ : Shared) (mg mb : Str → Option Value), Ground q loose r.records XP w s₀ mg mb s₁.heap → YP w s₁.heap → ∀ (a : Addr) (o : Obj) (pm cd doc dV kV : Value), s₁.heap.get? a = some o →
    o.data = .func { docDef d.name d.params d.body d.scope pm cd doc with defaults := dV, kwdefaults := kV } → s₁.heap.CodeRec cd d.name → Dflts mg s₁.heap d.params kwd dV kV → mg d.name = some (.ref a) → s₁.gens = #[] →
    ∀ (args : List WData) (vals : List Value) (as : List Addr), r.claim.pre args = true → WData.layableAll args = true → ReadsAllW r.records (classAt s₀.heap) s₁.heap vals args as → WellAll w.params s₁.heap vals args → (∀ a ∈ as, (a == sysModules) = false) →
      wpC (model r.prog w) callerA (PySem.call (.ref a) vals) (fun v s' => GoodWG r.claim (classAt s₀.heap) (ExcName.means s₀.heap) args s₁ (.ok (.ret v)) s')
        (fun e s' => GoodWG r.claim (classAt s₀.heap) (ExcName.means s₀.heap) args s₁ (.error e) s') s₁

/-- what the head of an open law wants, from the root context alone -/
theorem PySem.W.holds_open {r : OpenRow} {q : Program} {loose : List Str} {Xt : Shared → Bool} {XP : (Str → Option Value) → Heap → Prop} {α : Type} {Yf : Shared → α} {Ya : World → α} {YP : World → Heap → Prop} {d : DefRec} {kwd : List (Str × PySem.Expr)} {N : Nat}
    (left : LeftO r.prog q loose Xt Yf Ya N) (hY : ∀ w s, Yf s = Ya w → YP w s.heap) (hYk : ∀ w h h', YP w h → (∀ b o, h.get? b = some o → h'.get? b = some o) → YP w h')
    (hX : ∀ s, Xt s = true → XP (s.heap.nsMap mainGlobals) s.heap) (hXk : ∀ mg h h', XP mg h → (∀ b o, h.get? b = some o → h'.get? b = some o) → XP mg h')
    (hdef : defOf q r.name = some (d, kwd)) (hp : r.prog.theDef r.name = some (d.params, d.body, d.scope)) (hk : kwWritten? d.params.kwonlyargs d.params.kw_defaults = some kwd) (hRf : ∀ s, Xt s = true → RecFacts r.records s.heap) (hwr : (!r.writes || r.records.isEmpty) = true)
    (k1 : r.wellSaid = true) (ok : (chainsOk q && opensWell r.prog && (frees r.toRowW && r.within.isEmpty)) = true) (hb : r.prog.bare) (hw : r.toRowW.promised)
    (call : WalkC q loose XP YP r.toRowW d kwd) : r.Holds := by
  refine ⟨k1, hw, open_anyC (r := r.toRowW) (run := fun f vs => PySem.call f vs) (tree := fun vs => do match ← nsGet mainNs r.name with
      | some f => do ret (← PySem.call f vs)
      | none => unsupported "claim.caller:no-such-global") left hY hYk hX hXk hRf hwr ok hb hw
    (fun vs w s mg f Q E hg hf h => wpC_bindA (wpAny_nsGet hg (by rw [hf]; exact wpC_bind (wpC_mono h (fun _ _ x => wpC_pure x) fun _ _ x => x))))
    (fun w s hg G n hn => ?_) fun w s₀ s₁ mg mb G Y args vs as hpre hlay L low => ?_⟩
  · obtain rfl : n = r.name := by split at hn <;> simp_all
    exact pinned_of_view hg G hdef hp hk
  · obtain ⟨a, o, pm, cd, doc, dV, kV, h1, h2, h3, h4, h5⟩ := G.fn hdef
    exact ⟨.ref a, h1, call w s₀ s₁ mg mb G Y a o pm cd doc dV kV h2 h3 h4 h5 (defOf_name hdef ▸ h1) L.gens args vs as hpre hlay L.reads L.well (L.low low)⟩
end Mine

end
section
open PySem PySem.W PyProof.Rows PySem.Calls
set_option Elab.async false
set_option autoImplicit false
set_option linter.unusedVariables false
set_option maxRecDepth 100000
namespace Mine
section
variable {prog : Program} {w : World} {A : Around} {E : Value → Shared → Prop} {h : Heap} {g : Array GenState} {d : Drawn} {t : Nat} {os : OsState}
theorem bind_new {ann : Option Addr} {pm cd doc : Value} {c b : Value} {Q : List (Str × Value) → Shared → Prop}
    (hq : Q [("cls", c), ("args", .ref h.objs.size), ("kwargs", .ref (h.objs.size + 1))] ⟨(h.push { cls := .type "tuple", data := .seq #[b] }).push emptyDict, g, d, t, os⟩) :
    wpAny (model prog w) A (bindArgs (fdM 12 1 "IOBase.__new__" .none .none ann pm cd doc) ⟨[c, b], []⟩) Q E ⟨h, g, d, t, os⟩ := by
  unfold bindArgs
  repeat lk
  show Q [("cls", c), ("args", .ref h.objs.size), ("kwargs", .ref (h.push { cls := .type "tuple", data := .seq #[b] }).objs.size)] _
  rw [Heap.size_push]
  exact hq

theorem mro_obj : mroOf (.type "object") = pure [.type "object"] := by rw [mroOf_type]; kernel_rfl
theorem look_obj_new : typeLookup (.type "object") "__new__" = pure (some (.builtin "object.__new__")) := by rw [typeLookup_type, builtinLookup_eq_fast]; kernel_rfl
theorem made_obj : Bind.madeBy (.type "object") = pure (some "object.__new__") := madeBy_type mro_obj look_obj_new (by decide +kernel)
/-- object.__new__(C), C a class with an own __new__ -/
theorem object_new {C : Addr} {oc : Value} {od : Option Addr} {cd : ClassData} {sl : Array (Option Value)} {R : Result → Shared → Prop} (hC : h.get? C = some ⟨oc, od, .cls cd, sl⟩) (e1 : cd.abstract = false) (e2 : cd.hasDel = false)
    (base : Looks (model prog w) h (Bind.staticBase (.ref C)) (.type "object")) (top : Looks (model prog w) h (isSubtype (.ref C) (.type "object")) true)
    (hq : R (.ok (.ret (.ref (h.objs.size + 1)))) ⟨(h.push emptyDict).push (instObj C h.objs.size), g, d, t, os⟩) :
    codeAny (model prog w) A (.call (.builtin "object.__new__") ⟨[.ref C], []⟩) R ⟨h, g, d, t, os⟩ := by
  have F := PySem.F.objNew
  refine codeAny_call_builtin_code (Code.quiet_builtin _ F.quiet) ?_
  simp only [checkBuiltinCall, F.kind, F.split, F.row]
  have args : Bind.checkArgs "object.__new__" ⟨.hand, "object.__new__", "__new__", .cls, []⟩ ⟨[.ref C], []⟩ = pure () := by kernel_rfl
  rw [args]
  have mo : Looks (model prog w) h (Bind.madeBy (.type "object")) (some "object.__new__") := Looks.of_pure made_obj
  have here : Looks (model prog w) h (Bind.madeHere "object.__new__" (.ref C)) () := base.andThen (mo.andThen (Looks.of_pure (by simp only [Option.map_some, bne_self_eq_false, Bool.false_eq_true, if_false])))
  repeat (first | simp only [bne_self_eq_false, Bool.false_eq_true, if_false] | lk)
  refine codeAny_builtin F.entry ?_
  unfold Builtin.«object.__new__»
  have fin : ∀ A', wpAny (model prog w) A' (do
      let d ← if typeHasDict (.ref C) then some <$> alloc { cls := .type "dict", data := .dict #[] } else pure none
      ret (← newObj (.ref C) .plain d)) (fun fin s' => match fin with | .done f => R (.ok f) s' | .again c' => c'.quiet = true ∧ codeAny (model prog w) A c' R s') (fun e s' => R (.error e) s') ⟨h, g, d, t, os⟩ := by
    intro A'
    show wpAny _ _ ((alloc emptyDict >>= fun x => pure (some x)) >>= _) _ _ _
    refine wpAny_bind (wpAny_bind (wpAny_alloc (wpAny_pure (wpAny_bind ?_))))
    show wpAny _ _ (newObjAsIs _ _ _) _ _ _
    unfold newObjAsIs classHasDel
    refine wpAny_bind (wpAny_alloc (wpAny_bind (wpAny_bind (wpAny_load (Heap.get?_push_of_some _ (Heap.get?_push_of_some _ hC)) (wpAny_pure ?_)))))
    rw [e2]
    refine wpAny_pure (wpAny_pure ?_)
    show R _ _
    rw [Heap.size_push]
    exact hq
  repeat (first | simp only [e1, Bool.false_eq_true, if_false] | exact fin _ | lk)
end

structure BF (h00 : Heap) (K : Frag) (C sm fNew fInit : Addr) : Prop where
  X : K.In h00
  obj : ∃ oc od cd sl, h00.get? C = some ⟨oc, od, .cls cd, sl⟩ ∧ cd.abstract = false ∧ cd.hasDel = false ∧ cd.mro.isEmpty = false
  call : specialIn K (.ref C) "__call__" = some (some (.builtin "type.__call__"))
  typ : instIn K (.ref C) (.type "type") = some true
  self : mroIn K C (.ref C) = some true
  top : mroIn K C (.type "object") = some true
  made : ∀ (prog : Program) (w : World) (h : Heap), K.In h → Looks (model prog w) h (Bind.madeBy (.ref C)) none
  base : ∀ (prog : Program) (w : World) (h : Heap), K.In h → Looks (model prog w) h (Bind.staticBase (.ref C)) (.type "object")
  reads : readsIn K C (.type "type") = true
  new : findCls K (.ref C) (.type "type") "__new__" = some (.get (.builtin "staticmethod.__get__") (.ref sm) .none (.ref C))
  stat : recIn K sm "staticmethod" = some [.ref fNew]
  init : findIn K (.ref C) "__init__" = some (some (.ref fInit))
  initF : typeIn K (.ref fInit) = some (.type "function")
  dN : IsMeth h00 fNew 12 1 "IOBase.__new__" .none

/-- more known names -/
structure Nm3 (mg mb : Str → Option Value) (C : Addr) : Prop where
  bio : mg "BytesIO" = some (.ref C)
  object : mg "object" = none ∧ mb "object" = some (.type "object")

/-- a def's frame, made -/
theorem fm_enter {h00 : Heap} {mg mb : Str → Option Value} {A : Around} {B : Led} {s s₁ s₂ : Shared} {f : Addr} {fd : FuncData} {binds : List (Str × Value)} (e0 : Env0 h00 mg mb) (G : Gl h00 A s.heap) (hb : Has s.heap B)
    (same : ∃ h tk, s₁ = { s with heap := h, toks := tk }) (k : ∀ b o, s.heap.get? b = some o → s₁.heap.get? b = some o) (hk : fd.scope.kind = .function)
    (x : InCallC s₁ (callEnvC fd s₁.heap.objs.size f).locals (bindL (callEnvC fd s₁.heap.objs.size f).kindOf binds fun _ => none) (callEnvC fd s₁.heap.objs.size f).cells (bindC (callEnvC fd s₁.heap.objs.size f).kindOf binds fun _ => none) s₂) :
    Fm h00 mg mb A B s (callEnvC fd s₁.heap.objs.size f) (bindL (callEnvC fd s₁.heap.objs.size f).kindOf binds fun _ => none) (bindC (callEnvC fd s₁.heap.objs.size f).kindOf binds fun _ => none) [] B s₂ := by
  have hL : (callEnvC fd s₁.heap.objs.size f).locals = s₁.heap.objs.size := rfl
  have hnew : ∀ a, s₁.heap.objs.size ≤ a → s.heap.get? a = none := fun a ha => by
    cases q : s.heap.get? a with
    | none => rfl
    | some o => exact absurd (Heap.lt_size (k _ _ q)) (Nat.not_lt.mpr ha)
  obtain ⟨h₁, t₁, rfl⟩ := same
  obtain ⟨h₂, t₂, e⟩ := x.toInCall.same
  have kk : ∀ b o, s.heap.get? b = some o → s₂.heap.get? b = some o := fun b o q => x.toInCall.keep b o (k b o q)
  have hst : Stp A B s B s₂ := ⟨⟨h₂, t₂, by rw [e]⟩, .of_keeps kk, fun p hp => (hb p hp).keeps fun o q => kk _ o q, fun _ h => h, fun _ h => .inl h⟩
  refine ⟨⟨e0, ⟨fun b o q => kk b o (G.stay b o q), by simpa [Around.deeper] using G.stack, ?_⟩, x.toInCall.ns, x.cell, hst.has⟩, G, hst, x.apart, hnew _ (Nat.le_refl _), fun n c hc => ?_, rfl, fun _ hp => (nomatch hp), fun _ hp => (nomatch hp)⟩
  · obtain ⟨l, hl⟩ := Option.isSome_iff_exists.mp G.stack
    have e1 : (A.deeper (callEnvC fd h₁.objs.size f)).frames.getD [] = callEnvC fd h₁.objs.size f :: l := by simp [Around.deeper, hl]
    have e2 : A.frames.getD [] = l := by simp [hl]
    have h1 := G.frames
    rw [e2] at h1
    show s₂.heap.FunFrames h00 ((A.deeper (callEnvC fd h₁.objs.size f)).frames.getD [])
    rw [e1]
    obtain ⟨oL, es, ep, hoL, hdL, _⟩ := x.toInCall.ns
    refine ⟨by rw [show (callEnvC fd h₁.objs.size f).scope.kind = fd.scope.kind from rfl, hk]; decide, ⟨_, oL, rfl, ?_, hoL, fun vs q => by rw [hdL] at q; cases q⟩, h1.of_keeps fun b o q _ => ⟨o, kk b o q, rfl⟩⟩
    cases q : h00.get? h₁.objs.size with
    | none => rfl
    | some o' =>
      have := G.stay _ _ q
      rw [hnew _ (Nat.le_refl _)] at this; cases this
  · have := x.above n c (mem_of_lookup hc)
    exact ⟨hnew c (Nat.le_of_lt (hL ▸ this)), Nat.ne_of_gt this⟩
end Mine

end
section
open PySem PySem.W PyProof.Rows PySem.Calls
set_option Elab.async false
set_option autoImplicit false
set_option linter.unusedVariables false
set_option maxRecDepth 100000
namespace Mine
theorem Fm.fr {h00 : Heap} {mg mb : Str → Option Value} {A₀ : Around} {B₀ : Led} {s₀ : Shared} {env : Env} {m cm : Str → Option Value} {Z : List (Addr × Obj)} {B : Led} {s : Shared} (F : Fm h00 mg mb A₀ B₀ s₀ env m cm Z B s) : Fr (cut s.heap env.locals) env.locals s.heap m :=
  ⟨F.rd.ns, fun _ _ q => cut_of q, cut_size _ _⟩
theorem objnew_find : findCls [] (.type "object") (.type "type") "__new__" = some (.val (.builtin "object.__new__")) := by kernel_rfl
section
variable {prog : Program} {w : World} {h00 : Heap} {mg mb : Str → Option Value} {A : Around} {B : Led} {s : Shared} {K : Frag} {C sm fNew fInit : Addr}
theorem new_meets {b : Value} {Q E : Value → Shared → Prop} (T : BF h00 K C sm fNew fInit) (N : Nm3 mg mb C) (e0 : Env0 h00 mg mb) (G : Gl h00 A s.heap) (hb : Has s.heap B) (R : Room A 1 6)
    (hQ : ∀ s' x dx, Stp A B s B s' → s'.heap.get? x = some (instObj C dx) → s'.heap.get? dx = some emptyDict → s.heap.get? x = none → s.heap.get? dx = none → x ≠ dx → Q (.ref x) s') :
    wpAny (model prog w) A (call (.ref fNew) [.ref C, b]) Q E s := by
  obtain ⟨kwd, ann, pm, cd, doc, rfl, D⟩ := T.dN
  obtain ⟨o, ho, hd⟩ := D.obj
  refine wpAny_call (codeAny_call_function (by have := R.dp; omega) (G.stay _ _ ho) hd D.co D.gen D.body (D.code.keeps G.stay) ?_)
  obtain ⟨h, g, d, t, os⟩ := s
  refine bind_new ?_
  rw [D.clo]
  refine wpAny_newFunctionEnv_cells D.kind ?_ fun env he s₂ x => ?_
  · intro y hy
    simp only [List.mem_cons, List.not_mem_nil, or_false] at hy
    rcases hy with rfl | rfl | rfl <;> exact .inl (by rfl)
  subst he
  have k0 : ∀ b' o, h.get? b' = some o → ((h.push { cls := .type "tuple", data := .seq #[b] }).push emptyDict).get? b' = some o := fun b' o e => Heap.get?_push_of_some _ (Heap.get?_push_of_some _ e)
  have F : Fm h00 mg mb A B ⟨h, g, d, t, os⟩ (callEnvC (fdM 12 1 "IOBase.__new__" .none .none ann pm cd doc) ((h.push { cls := .type "tuple", data := .seq #[b] }).push emptyDict).objs.size fNew) (bindL (callEnvC (fdM 12 1 "IOBase.__new__" .none .none ann pm cd doc) ((h.push { cls := .type "tuple", data := .seq #[b] }).push emptyDict).objs.size fNew).kindOf [("cls", .ref C), ("args", .ref h.objs.size), ("kwargs", .ref (h.objs.size + 1))] fun _ => none) (bindC (callEnvC (fdM 12 1 "IOBase.__new__" .none .none ann pm cd doc) ((h.push { cls := .type "tuple", data := .seq #[b] }).push emptyDict).objs.size fNew).kindOf [("cls", .ref C), ("args", .ref h.objs.size), ("kwargs", .ref (h.objs.size + 1))] fun _ => none) [] B s₂ :=
    fm_enter (s₁ := ⟨((h.push { cls := .type "tuple", data := .seq #[b] }).push emptyDict), g, d, t, os⟩) e0 G hb ⟨_, _, rfl⟩ k0 D.kind x
  refine ⟨(e0.lim.keeps G.stay).keeps fun b o q => x.toInCall.keep b o (k0 b o q), codeAny_func ?_⟩
  clear x
  generalize hL : ((h.push { cls := .type "tuple", data := .seq #[b] }).push emptyDict).objs.size = L at F
  have hm : (bindL (callEnvC (fdM 12 1 "IOBase.__new__" .none .none ann pm cd doc) L fNew).kindOf [("cls", .ref C), ("args", .ref h.objs.size), ("kwargs", .ref (h.objs.size + 1))] fun _ => none) "cls" = some (.ref C) := by rfl
  generalize (bindL (callEnvC (fdM 12 1 "IOBase.__new__" .none .none ann pm cd doc) L fNew).kindOf [("cls", .ref C), ("args", .ref h.objs.size), ("kwargs", .ref (h.objs.size + 1))] fun _ => none) = m at F hm
  show wpAny _ (A.deeper (callEnvC (fdM 12 1 "IOBase.__new__" .none .none ann pm cd doc) L fNew)) (execs (dBody (inOf (topOf 12) 1)) (callEnvC (fdM 12 1 "IOBase.__new__" .none .none ann pm cd doc) L fNew)) _ _ s₂
  refine wpAny_execs_cons (wpAny_If (wpAny_isTrue_BoolOp (wpAny_allTrue_And_cons (wpAny_isTrue_Compare1 ?_))))
  refine F.rd.name_l hm (F.rd.name_g N.bio ?_)
  show wpAny _ _ (isSame (.ref C) (.ref C) >>= fun b => pure (Value.bool !b)) _ _ _
  have hsame : isSame (.ref C) (.ref C) = pure true := by
    show (if C == C then pure true else _) = _
    rw [if_pos (beq_self_eq_true C)]
  rw [hsame]
  refine wpAny_bind (wpAny_pure (wpAny_pure (wpAny_truthy_bool ?_)))
  rw [if_neg (by decide), if_neg (by decide)]
  show wpAny _ _ (execs [] _) _ _ _
  refine wpAny_execs_nil ?_
  dsimp only
  refine wpAny_execs_cons (wpAny_Return_some (MethodCall_ (F.rd.name_b N.object.1 N.object.2 ?_)))
  refine method_type (K := []) (T := "object") F.fr (fun _ _ e => by cases e) (by first | rfl | kernel_rfl) (by decide +kernel) objnew_find rfl ?_
  have F₁ := F.lt (s₂.toks + 1)
  refine callWith_builtin rfl (evalArgs_plain (spliced_cons (F₁.rd.name_l hm (spliced_nil ?_))))
  obtain ⟨oc, od, cdd, sl, hC, a1, a2, a3⟩ := T.obj
  have st := F₁.rd.gl.stay
  have hg := F₁.stp
  obtain ⟨⟨h₂, t₂, e⟩, _⟩ := F.stp
  subst e
  have X : K.In h₂ := T.X.keeps st
  refine wpAny_call (object_new (st C _ hC) a1 a2 (T.base _ _ _ X) (looks_mroIn X T.top) ?_)
  have hx : ((h₂.push emptyDict).push (instObj C h₂.objs.size)).get? (h₂.objs.size + 1) = some (instObj C h₂.objs.size) := by heap_get
  have hd2 : ((h₂.push emptyDict).push (instObj C h₂.objs.size)).get? h₂.objs.size = some emptyDict := by heap_get
  have y : Stp (A.deeper (callEnvC (fdM 12 1 "IOBase.__new__" .none .none ann pm cd doc) L fNew)) B { heap := h₂, gens := g, drawn := d, toks := t₂ + 1, os := os } B { heap := (h₂.push emptyDict).push (instObj C h₂.objs.size), gens := g, drawn := d, toks := t₂ + 1, os := os } :=
    .keeps F₁.rd.has fun b o e => Heap.get?_push_of_some _ (Heap.get?_push_of_some _ e)
  have F₂ := F₁.go y
  have old : ∀ a, h₂.get? a = none → h.get? a = none := fun a ha => by
    cases q : h.get? a with
    | none => rfl
    | some o =>
      obtain ⟨sl, e⟩ := hg.kp.slot a o q
      have e' : h₂.get? a = some _ := e
      rw [ha] at e'; cases e'
  exact hQ _ _ _ F₂.stp hx hd2 (old _ (Heap.get?_none_of_le (Nat.le_succ _))) (old _ (fresh_size _)) (Nat.succ_ne_self _)
end
end Mine

end
section
open PySem PySem.W PyProof.Rows PySem.Calls Builtin
set_option Elab.async false
set_option autoImplicit false
set_option linter.unusedVariables false
set_option maxRecDepth 100000
namespace Mine
section
variable {prog : Program} {w : World} {h00 : Heap} {mg mb : Str → Option Value} {A : Around} {B : Led} {K : Frag} {C sm fNew fInit : Addr}
theorem bio_make {s : Shared} {b : Value} {R : Result → Shared → Prop} (T : BF h00 K C sm fNew fInit) (N : Nm3 mg mb C) (e0 : Env0 h00 mg mb) (G : Gl h00 A s.heap) (hb : Has s.heap B) (Rm : Room A 3 12)
    (hI : ∀ s' x dx, Stp A B s B s' → s'.heap.get? x = some (instObj C dx) → s'.heap.get? dx = some emptyDict → s.heap.get? x = none → s.heap.get? dx = none → x ≠ dx →
      codeC (model prog w) (A.under (.builtin "type.__call__" ⟨[.ref C, b], []⟩)) (.call (.ref fInit) ⟨[.ref x, b], []⟩) (InitBack x R) s') :
    codeC (model prog w) A (.call (.ref C) ⟨[b], []⟩) R s := by
  obtain ⟨h, g, d, t, os⟩ := s
  have X : K.In h := T.X.keeps G.stay
  obtain ⟨oc, od, cd, sl, hC0, a1, a2, a3⟩ := T.obj
  have hC := G.stay C _ hC0
  have call := looks_specialIn (M := model prog w) X T.call
  have typ := looks_instIn (M := model prog w) X T.typ
  refine codeC_of_tree rfl (.any ?_)
  show wpAny _ _ (callAny (.ref C) _) _ _ _
  refine nd_load hC ?_
  show wpAny _ _ (callAny.viaDunder (.ref C) _) _ _ _
  unfold callAny.viaDunder
  refine wpAny_bind (call.at ?_)
  dsimp only
  rw [tc_bind]
  refine wpAny_bind (wpAny_pure (wpAny_bind (wpAny_pure ?_)))
  refine wpAny_pure (a := Fin.again (.call (.builtin "type.__call__") ⟨[.ref C, b], []⟩)) (And.intro rfl ?_)
  refine codeC_call_builtin (Code.quiet_builtin _ (by decide +kernel)) (check_slot tc_kind tc_split typ (tc_args _ _ _) ?_)
  refine codeC_builtin (by rfl) entry_typeCall ?_
  unfold Builtin.«type.__call__»
  have hm : Looks (model prog w) h (mroOf (.ref C)) cd.mro := ((Looks.ld (part := none) hC).andThen .now).andThen .now
  show wpC _ _ (mroOf (.ref C) >>= _) _ _ _
  refine wpC_bindA (hm.at ?_)
  show wpC _ _ (if cd.mro.isEmpty = true then _ else (Bind.madeBy (.ref C) >>= _)) _ _ _
  rw [if_neg (by rw [a3]; decide)]
  refine wpC_bindA ((T.made _ _ _ X).at ?_)
  show wpC _ _ (getAttr (.ref C) "__new__" >>= _) _ _ _
  refine wpC_bindA (cls_bind (s := ⟨h, g, d, t, os⟩) X T.reads T.new (wpAny_call (sm_get (s := ⟨h, g, d, t + 1, os⟩) X T.stat (handed_on rfl ?_))))
  refine wpC_bindA (wpAny_holding ?_)
  have G' : Gl h00 (A.under (.builtin "type.__call__" ⟨[.ref C, b], []⟩)) h := G.around rfl
  refine new_meets (s := ⟨h, g, d, t + 1, os⟩) (mg := mg) (mb := mb) T N e0 G' hb ⟨Rm.hh, by have := Rm.dp; show A.depth + 1 + 1 < _; omega, by have := Rm.un; show A.units + _ + 6 < _; exact Nat.lt_of_le_of_lt (by show A.units + 1 + 6 ≤ A.units + 12; omega) this⟩ fun s' x dx y hx hdx nx ndx hne => ?_
  have y' : Stp A B ⟨h, g, d, t, os⟩ B s' := by
    obtain ⟨⟨h₂, t₂, rfl⟩, k1, a1, b1, c1⟩ := y
    exact ⟨⟨h₂, t₂, rfl⟩, k1, a1, b1, c1⟩
  have X' : K.In s'.heap := T.X.keeps (G.kp y'.kp).stay
  have tx : Looks (model prog w) s'.heap (typeOf (.ref x)) (.ref C) := (Looks.ld hx).andThen .now
  have ix : Looks (model prog w) s'.heap (isInstance (.ref x) (.ref C)) true := tx.andThen (looks_mroIn X' T.self)
  refine wpC_bindA (ix.here ?_)
  rw [if_neg (by decide)]
  refine wpC_bind (wpC_holding ?_)
  unfold callSpecial? specialOf
  refine wpC_bindA (wpAny_bind (tx.here ((looks_findIn X' T.init).here ?_)))
  refine wpC_holding (wpC_bindA ((bind_fn X' _ T.initF).here ?_))
  refine wpC_bind (wpC_call (codeC_mono (hI s' x dx y' hx hdx nx ndx hne) fun r s₂ z => ?_))
  rcases r with e | (v | _ | _ | _) <;> first | exact z | exact z.elim | skip
  obtain ⟨rfl, z⟩ := z
  refine wpC_pure ?_
  show wpC _ _ (ret (.ref x)) _ _ _
  exact wpC_pure z
end
end Mine

end
section
open PySem PySem.W PyProof.Rows PySem.Calls Builtin
set_option Elab.async false
set_option autoImplicit false
set_option linter.unusedVariables false
set_option maxRecDepth 100000
namespace Mine
theorem ba_mro : mroOf (.type "bytearray") = pure [.type "bytearray", .type "object"] := by rw [mroOf_type]; kernel_rfl
theorem ba_look_new : typeLookup (.type "bytearray") "__new__" = pure (some (.builtin "bytearray.__new__")) := by rw [typeLookup_type, builtinLookup_eq_fast]; kernel_rfl
theorem ba_slot_init : Slot "bytearray" "__init__" "bytearray.__init__" :=
  .of (owner := "bytearray") (n := "__init__") (by rw [typeLookup_type, builtinLookup_eq_fast]; kernel_rfl) (by decide +kernel) (by decide +kernel) (by decide +kernel)
    (by first | exact .inl (by decide +kernel) | exact .inr (by decide +kernel)) (by rw [isSubtype_type]; kernel_rfl)
theorem ba_called : TypeCalled "bytearray" "bytearray.__new__" "bytearray.__init__" :=
  ⟨by decide +kernel, by decide +kernel, ⟨_, _, ba_mro⟩, madeBy_type ba_mro ba_look_new (by decide +kernel), by decide +kernel, by rw [isSubtype_type]; kernel_rfl, ba_slot_init⟩
theorem ba_typeCall (a : Value) : checkTypeCall "bytearray" ⟨[a], []⟩ = pure () := by kernel_rfl
theorem ba_newCall (a : Value) : checkBuiltinCall "bytearray.__new__" ⟨[.type "bytearray", a], []⟩ = pure () := by kernel_rfl
theorem ba_entry_new : entryFor table "bytearray.__new__" = some Builtin.«list.__new__» :=
  entryFor_alias (id' := "list.__new__") (by kernel_rfl) (by first | rfl | decide +kernel) (by decide +kernel) (by kernel_rfl)
theorem ba_plain_new : plainId "bytearray.__new__" = true := by decide +kernel
set_option maxHeartbeats 4000000 in
theorem ba_owner : ("bytearray.__new__".splitOn ".__new__").headD "" = "bytearray" := by simp +decide [String.splitOn, String.splitOnAux]
theorem ba_sub : isSubtype (.type "bytearray") (.type "bytearray") = pure true := by rw [isSubtype_type]; kernel_rfl

section
variable {prog : Program} {w : World} {A : Around} {E : Value → Shared → Prop} {s : Shared}
theorem ba_new (a : Value) {Q₁ : Value → Shared → Prop}
    (h : Q₁ (.ref s.heap.objs.size) { s with heap := s.heap.push { cls := .type "bytearray", data := .bytearray #[] } }) :
    codeAny (model prog w) A (.call (.builtin "bytearray.__new__") ⟨[.type "bytearray", a], []⟩) (wants Q₁ E) s := by
  refine codeAny_of_tree ?_
  show wpAny _ A.in1 (do checkBuiltinCall "bytearray.__new__" ⟨[.type "bytearray", a], []⟩; again (.builtin "bytearray.__new__" ⟨[.type "bytearray", a], []⟩)) _ _ s
  refine wpAny_bind (wpAny_of_eq (ba_newCall a) (wpAny_pure ⟨plainId_quiet ba_plain_new _, codeAny_builtin_stack ba_entry_new rfl fun p st => ?_⟩))
  rw [Around.under_plainId ba_plain_new _]
  have hsub := ba_sub
  have hown := ba_owner
  obtain ⟨hp, g, d, tk, os⟩ := s
  simp only [hown]
  wp_walk
  exact h

theorem ba_release : typeLookup (.type "bytearray") "__release_buffer__" = pure (some (.builtin "bytearray.__release_buffer__")) := by rw [typeLookup_type, builtinLookup_eq_fast]; kernel_rfl
theorem by_index : typeLookup (.type "bytes") "__index__" = pure none := by rw [typeLookup_type, builtinLookup_eq_fast]; kernel_rfl
theorem ba_bind (v : Value) : Builtin.Bytes.bindOptional "bytearray.__init__" "bytearray" ["source", "encoding", "errors"] [v] [] = pure [some v, none, none] := by kernel_rfl
theorem ba_entry_init : entryFor table "bytearray.__init__" = some Builtin.«bytearray.__init__» := by first | exact entryFor_of_fast (by kernel_rfl) | exact entryFor_of_tree (by kernel_rfl)
theorem ba_args (a b : Value) : argsOk "bytearray.__init__" ⟨[a, b], []⟩ := by unfold argsOk; kernel_rfl

theorem ba_ownRelease {S : Addr} {o : Obj} {M : Model} {Q : Bool → Shared → Prop} (ho : s.heap.get? S = some o) (hc : o.cls = .type "bytearray") (h : Q false s) : wpAny M A (Builtin.Bytes.ownRelease (.ref S)) Q E s := by
  have hT : s.TypeIs (.ref S) "bytearray" := ⟨o, ho, hc⟩
  unfold Builtin.Bytes.ownRelease Builtin.Bytes.slotIsOwn
  refine wpAny_bind (wpAny_bind (wpAny_specialOf hT ba_release ?_))
  dsimp only
  refine KFB.if_not (by decide +kernel) ?_
  refine wpAny_isInstance (T := "bytearray") (b := true) hT (by rw [show ("bytearray.__release_buffer__".dropRight ("__release_buffer__".length + 1)) = "bytearray" by decide +kernel]; exact ba_sub) ?_
  exact wpAny_pure h

theorem bad_id {id : String} {args : Args} (h : badIds.contains id = true) : ¬ fineC (.builtin id args) = true := by
  show ¬ (!badIds.contains id) = true
  rw [h]; decide
theorem good_id {id : String} {args : Args} (h : fineC (.builtin id args) = true) : Builtin.Bytes.decodersThatHold.contains id = false := by
  have h' : (!badIds.contains id) = true := h
  rw [Bool.not_eq_true', badIds, List.contains_append, Bool.or_eq_false_iff] at h'
  exact h'.1
/-- nothing on a clean stack holds it -/
theorem ba_exported {M : Model} {v : Value} {Q : Bool → Shared → Prop} (h : Q false s) : wpC M A (Builtin.Bytes.exported v) Q E s := fun Γ p hΓ cl => by
  have all : ∀ x ∈ (Γ.code, p) :: Γ.below, fineC x.1 = true := fun x hx => by
    rcases List.mem_cons.mp hx with rfl | hx
    · exact cl.1
    · exact cl.2 x hx
  have no : ∀ (f : Code × Pos → Bool), (∀ x, fineC x.1 = true → f x = false) → ((Γ.code, p) :: Γ.below).any f = false := fun f hf => by
    rw [List.any_eq_false]
    exact fun x hx => by rw [hf x (all x hx)]; exact Bool.false_ne_true
  unfold Builtin.Bytes.exported
  show Q (((Γ.code, p) :: Γ.below).any _) s
  rw [no _ ?_]
  · exact h
  · rintro ⟨c, p'⟩ hc
    dsimp only at hc ⊢
    split <;> first
      | rfl
      | (rename_i heq; cases heq; exact absurd hc (bad_id (by decide +kernel)))
      | (rename_i heq; cases heq; rw [good_id hc, Bool.and_false])

theorem by_bufferF {b : Array UInt8} {t : Tok} {id : String} : Builtin.Bytes.buffer? id (.bytes b t) true = pure (some b) := by
  unfold Builtin.Bytes.buffer?
  rw [KBy.special_eq KBy.look_buffer, KBy.own_buffer, KBy.own_release]
  kernel_rfl

/-- bytearray.__init__(S, bytes) -/
theorem ba_init {S : Addr} {b : Array UInt8} {t : Tok} {R : Result → Shared → Prop} (hS : s.heap.get? S = some { cls := .type "bytearray", data := .bytearray #[] }) (hsz : b.size ≤ 16777216)
    (hR : ∀ h', Heap.ExtBut S s.heap h' → h'.get? S = some { cls := .type "bytearray", data := .bytearray b } → R (.ok (.ret .none)) { s with heap := h' }) :
    codeC (model prog w) A (.call (.builtin "bytearray.__init__") ⟨[.ref S, .bytes b t], []⟩) R s := by
  have hT : s.TypeIs (.ref S) "bytearray" := ⟨_, hS, rfl⟩
  refine codeC_call_builtin (plainId_quiet ba_slot_init.plain _) (ba_slot_init.check _ _ _ _ _ _ _ _ hT (ba_args _ _) ?_)
  refine codeC_builtin (by show (!badIds.contains "bytearray.__init__") = true; decide +kernel) ba_entry_init ?_
  unfold Builtin.«bytearray.__init__»
  refine wpC_bindA (ba_ownRelease hS rfl ?_)
  show wpC _ _ (Builtin.Bytes.bindOptional "bytearray.__init__" "bytearray" ["source", "encoding", "errors"] [.bytes b t] [] >>= _) _ _ _
  refine wpC_bindA (wpAny_of_eq (ba_bind _) ?_)
  show wpC _ _ (Builtin.Bytes.checkCodecArg "bytearray.__init__" "bytearray" "encoding" none >>= _) _ _ _
  refine wpC_bindA (wpAny_of_eq (a := ()) rfl (wpC_bindA (wpAny_of_eq (a := ()) rfl ?_)))
  refine wpC_bind ?_
  show wpC _ _ (Builtin.Bytes.exported (.ref S) >>= _) _ _ _
  refine wpC_bind (ba_exported (.any ?_))
  show wpAny _ _ (Builtin.Bytes.exportsOf (.ref S) >>= fun n => pure (decide (n > 0))) _ _ _
  unfold Builtin.Bytes.exportsOf
  refine wpAny_bind (wpAny_bind (wpAny_load hS (wpAny_pure (wpAny_pure ?_))))
  refine .any ?_
  rw [if_neg (by decide)]
  refine wpAny_bind ?_
  have up : ∀ {s₁ : Shared} {b₀ b' : Array UInt8} {Q : Unit → Shared → Prop} {E : Value → Shared → Prop} {A' : Around}, s₁.heap.get? S = some { cls := .type "bytearray", data := .bytearray b₀ } → b'.size ≤ 16777216 →
      (∀ h', Heap.ExtBut S s₁.heap h' → h'.get? S = some { cls := .type "bytearray", data := .bytearray b' } → Q () { s₁ with heap := h' }) → wpAny (model prog w) A' (Builtin.Bytes.write (.ref S) fun _ => b') Q E s₁ := fun {s₁ b₀ b' Q E A'} h0 hz hq => by
    show wpAny _ _ (updateBytearray S (fun _ => b')) _ _ _
    unfold updateBytearray
    refine wpAny_bind (wpAny_load h0 ?_)
    show wpAny _ _ (update S (Obj.mapBytearray (fun _ => b')) >>= fun _ => lookBehind S) _ _ _
    refine wpAny_bind (wpAny_update h0 ?_)
    have h1 : (s₁.heap.update S (Obj.mapBytearray (fun _ => b'))).get? S = some { cls := .type "bytearray", data := .bytearray b' } := Heap.get?_update_self (Obj.mapBytearray (fun _ => b')) h0 rfl
    refine wpAny_lookBehind h1 ?_ (hq _ (Heap.SameBut.update ..).extBut h1)
    show (if b'.size > sizeLine then some "bytearray:memory" else none) = none
    rw [if_neg (by rw [sizeLine_eq]; omega)]
  refine up hS (by simp) fun h₁ hs₁ hS₁ => ?_
  dsimp only
  refine wpAny_bind (wpAny_of_eq (a := none) (by first | rfl | kernel_rfl) ?_)
  rw [if_neg (by decide)]
  refine wpAny_bind (wpAny_of_eq (a := ()) rfl ?_)
  refine wpAny_bind (wpAny_of_eq (KBy.special_eq by_index) ?_)
  rw [if_neg (by decide)]
  refine wpAny_bind (wpAny_of_eq by_bufferF ?_)
  dsimp only
  refine wpAny_bind (wpAny_rule (wpAny_bind (up hS₁ hsz fun h₂ hs₂ hS₂ => ?_)))
  exact wpAny_pure (hR h₂ (fun b o hb e => hs₂ b o hb (hs₁ b o hb e)) hS₂)
end
end Mine

end
section
open PySem PySem.W PyProof.Rows PySem.Calls Builtin
set_option Elab.async false
set_option autoImplicit false
set_option linter.unusedVariables false
set_option maxRecDepth 100000
namespace Mine
section
variable {prog : Program} {w : World} {A : Around} {E : Value → Shared → Prop} {s : Shared}
theorem ba_make {b : Array UInt8} {t : Tok} {Q : Value → Shared → Prop} (hsz : b.size ≤ 16777216)
    (hQ : ∀ h', (∀ b o, s.heap.get? b = some o → h'.get? b = some o) → h'.get? s.heap.objs.size = some { cls := .type "bytearray", data := .bytearray b } → Q (.ref s.heap.objs.size) { s with heap := h' }) :
    wpC (model prog w) A (call (.type "bytearray") [.bytes b t]) Q E s := by
  have h1 := ba_called.canCreate
  refine wpC_call (codeC_of_tree rfl ?_)
  show wpC _ _ (callAny (.type "bytearray") _) _ _ _
  refine wpC_pure ⟨Code.quiet_builtin _ (by decide +kernel), codeC_builtin (by rfl) PySem.F.entry_type_call ?_⟩
  unfold Builtin.«type.__call__»
  dsimp only
  rw [if_neg (by decide)]
  split
  · rename_i hc
    exact absurd (h1.symm.trans hc) Bool.false_ne_true
  refine wpC_bindA (wpAny_of_eq (ba_typeCall _) ?_)
  refine wpC_bindA (wpAny_of_eq ba_mro ?_)
  rw [if_neg (by decide)]
  refine wpC_bindA (wpAny_of_eq ba_called.made ?_)
  refine wpC_bindA (wpAny_pure (wpC_bindA (wpAny_holding ?_)))
  refine wpAny_call (codeAny_mono (ba_new (.bytes b t) (Q₁ := fun v s' => v = .ref s.heap.objs.size ∧ s' = { s with heap := s.heap.push { cls := .type "bytearray", data := .bytearray #[] } }) (E := fun _ _ => False) ⟨rfl, rfl⟩) fun r s₂ z => ?_)
  rcases r with e | (v | _ | _ | _) <;> first | exact z.elim | skip
  obtain ⟨rfl, rfl⟩ := z
  have hS : (s.heap.push { cls := .type "bytearray", data := .bytearray #[] }).get? s.heap.objs.size = some { cls := .type "bytearray", data := .bytearray #[] } := Heap.get?_push_size _ rfl
  have hT : ({ s with heap := s.heap.push { cls := .type "bytearray", data := .bytearray #[] } } : Shared).TypeIs (.ref s.heap.objs.size) "bytearray" := ⟨_, hS, rfl⟩
  refine wpC_bindA (wpAny_isInstance (T := "bytearray") (b := true) hT ba_sub ?_)
  rw [if_neg (by decide)]
  refine wpC_bind (wpC_holding ?_)
  unfold callSpecial?
  refine wpC_bindA (wpAny_specialOf hT ba_slot_init.lookup ?_)
  refine wpC_holding (wpC_bindA (wpAny_of_eq (ba_slot_init.bind _) ?_))
  refine wpC_bind (wpC_call (ba_init hS hsz fun h' hs hS' => ?_))
  refine wpC_pure ?_
  show wpC _ _ (ret (.ref s.heap.objs.size)) _ _ _
  refine wpC_pure ?_
  exact hQ h' (fun b o e => hs b o (Nat.ne_of_lt (Heap.lt_size e)) (Heap.get?_push_of_some _ e)) hS'
end
end Mine

end
section
open PySem PySem.W PyProof.Rows PySem.Calls
set_option Elab.async false
set_option autoImplicit false
set_option linter.unusedVariables false
set_option maxRecDepth 100000
namespace Mine
section
variable {prog : Program} {w : World} {h00 : Heap} {mg mb : Str → Option Value} {A : Around} {B : Led} {s : Shared}
theorem fm_enterZ {s₂ : Shared} {f : Addr} {fd : FuncData} {binds : List (Str × Value)} (Z : List (Addr × Obj)) (e0 : Env0 h00 mg mb) (G : Gl h00 A s.heap) (hb : Has s.heap B) (hZ : Own h00 A B s.heap Z) (hkk : fd.scope.kind = .function)
    (x : InCallC s (callEnvC fd s.heap.objs.size f).locals (bindL (callEnvC fd s.heap.objs.size f).kindOf binds fun _ => none) (callEnvC fd s.heap.objs.size f).cells (bindC (callEnvC fd s.heap.objs.size f).kindOf binds fun _ => none) s₂) :
    Fm h00 mg mb A B (hid s (Z.map (·.1))) (callEnvC fd s.heap.objs.size f) (bindL (callEnvC fd s.heap.objs.size f).kindOf binds fun _ => none) (bindC (callEnvC fd s.heap.objs.size f).kindOf binds fun _ => none) Z B s₂ := by
  have hL : (callEnvC fd s.heap.objs.size f).locals = s.heap.objs.size := rfl
  have G' := G.hid hZ
  have hsz : (hid s (Z.map (·.1))).heap.objs.size = s.heap.objs.size := hideAll_size _ _
  have hnew : ∀ a, s.heap.objs.size ≤ a → (hid s (Z.map (·.1))).heap.get? a = none := fun a ha => Heap.get?_none_of_le (by rw [hsz]; exact ha)
  have keep : ∀ b o, (hid s (Z.map (·.1))).heap.get? b = some o → s₂.heap.get? b = some o := fun b o e => x.toInCall.keep b o (of_hideAll _ e)
  obtain ⟨h₁, tk, e⟩ := x.toInCall.same
  have hst : Stp A B (hid s (Z.map (·.1))) B s₂ :=
    ⟨⟨h₁, tk, by rw [e]; rfl⟩, .of_keeps keep, fun p hp => (hb p hp).keeps fun o q => x.toInCall.keep _ o q, fun _ h => h, fun _ h => .inl h⟩
  refine ⟨⟨e0, ⟨fun b o q => x.toInCall.keep b o (G.stay b o q), by simpa [Around.deeper] using G.stack, ?_⟩, x.toInCall.ns, x.cell, hst.has⟩, G', hst, x.apart, hnew _ (Nat.le_refl _), fun n c hc => ?_, rfl, fun p hp => ?_, fun p hp q hq => (hZ p hp).2.2.2 q hq⟩
  · obtain ⟨l, hl⟩ := Option.isSome_iff_exists.mp G.stack
    have e1 : (A.deeper (callEnvC fd s.heap.objs.size f)).frames.getD [] = callEnvC fd s.heap.objs.size f :: l := by simp [Around.deeper, hl]
    have e2 : A.frames.getD [] = l := by simp [hl]
    have h1 := G.frames
    rw [e2] at h1
    rw [e1]
    obtain ⟨oL, es, ep, hoL, hdL, _⟩ := x.toInCall.ns
    refine ⟨by rw [show (callEnvC fd s.heap.objs.size f).scope.kind = fd.scope.kind from rfl, hkk]; decide, ⟨_, oL, rfl, ?_, hoL, fun vs q => by rw [hdL] at q; cases q⟩, h1.of_keeps fun b o q _ => ⟨o, x.toInCall.keep b o q, rfl⟩⟩
    cases q : h00.get? s.heap.objs.size with
    | none => rfl
    | some o' => exact absurd (Heap.lt_size (G.stay _ _ q)) (Nat.lt_irrefl _)
  · have := x.above n c (mem_of_lookup hc)
    exact ⟨hnew c (Nat.le_of_lt (hL ▸ this)), Nat.ne_of_gt this⟩
  · have lt := Heap.lt_size (hZ p hp).1
    refine ⟨x.toInCall.keep _ _ (hZ p hp).1, Nat.ne_of_lt (hL ▸ lt), fun n c hc q => ?_, hideAll_none _ (List.mem_map.mpr ⟨p, hp, rfl⟩)⟩
    have := x.above n c (mem_of_lookup hc)
    rw [hL] at this
    exact absurd (q ▸ lt) (Nat.not_lt.mpr (Nat.le_of_lt this))

/-- in clean contexts -/
theorem call_codeC {f : Addr} {fd : FuncData} {body : List Stmt} {vals : List Value} {binds : List (Str × Value)} {R : Result → Shared → Prop} (Z : List (Addr × Obj)) (e0 : Env0 h00 mg mb) (G : Gl h00 A s.heap) (hb : Has s.heap B) (hZ : Own h00 A B s.heap Z) (D : IsDef h00 f fd body) (hroom : A.depth < recursionLimit)
    (hbind : wpAny (model prog w) A.in1 (bindArgs fd ⟨vals, []⟩) (fun b s' => b = binds ∧ s' = s) (fun _ _ => False) s)
    (hkind : ∀ x ∈ binds, fd.scope.names.lookup x.1 = some .local ∨ (fd.scope.names.lookup x.1 = some .cell ∧ ((cellsFrom (s.heap.objs.size + 1) fd.scope.names []).lookup x.1).isSome = true))
    (h : ∀ s₁ L, s.heap.objs.size ≤ L → Fm h00 mg mb A B (hid s (Z.map (·.1))) (callEnvC fd L f) (bindL (callEnvC fd L f).kindOf binds fun _ => none) (bindC (callEnvC fd L f).kindOf binds fun _ => none) Z B s₁ →
      wpC (model prog w) (A.deeper (callEnvC fd L f)) (execs body (callEnvC fd L f)) (fun fl s' => R (.ok (.ret (match fl with | .ret v => v | _ => .none))) s')
        (fun e s' => wpAny (model prog w) (A.deeper (callEnvC fd L f)) (leaving (callEnvC fd L f) e) (fun _ s'' => R (.error e) s'') (fun e' s'' => R (.error e') s'') s') s₁) :
    codeC (model prog w) A (.call (.ref f) ⟨vals, []⟩) R s := by
  obtain ⟨o, ho, hd⟩ := D.obj
  refine codeC_call_function hroom (G.stay _ _ ho) hd D.co D.gen D.body (D.code.keeps G.stay) (wpAny_mono hbind (fun b s' hs => ?_) fun _ _ q => q.elim)
  obtain ⟨rfl, rfl⟩ := hs
  rw [D.clo]
  refine wpAny_newFunctionEnv_cells D.kind hkind fun env he s₂ x => ?_
  subst he
  exact ⟨(e0.lim.keeps G.stay).keeps x.toInCall.keep, codeC_func (h s₂ _ (Nat.le_refl _) (fm_enterZ Z e0 G hb hZ D.kind x))⟩

/-- with defaults that are read from the heap -/
theorem call_codeD {f : Addr} {fd : FuncData} {body : List Stmt} {vals : List Value} {binds : List (Str × Value)} {R : Result → Shared → Prop} (Z : List (Addr × Obj)) (e0 : Env0 h00 mg mb) (G : Gl h00 A s.heap) (hb : Has s.heap B) (hZ : Own h00 A B s.heap Z) (D : IsDef h00 f fd body) (hroom : A.depth < recursionLimit)
    (hbind : wpAny (model prog w) A.in1 (bindArgs fd ⟨vals, []⟩) (fun b s' => b = binds ∧ s' = s) (fun _ _ => False) s)
    (hkind : ∀ x ∈ binds, fd.scope.names.lookup x.1 = some .local ∨ (fd.scope.names.lookup x.1 = some .cell ∧ ((cellsFrom (s.heap.objs.size + 1) fd.scope.names []).lookup x.1).isSome = true))
    (h : ∀ s₁ L, s.heap.objs.size ≤ L → Fm h00 mg mb A B (hid s (Z.map (·.1))) (callEnvC fd L f) (bindL (callEnvC fd L f).kindOf binds fun _ => none) (bindC (callEnvC fd L f).kindOf binds fun _ => none) Z B s₁ →
      wpAny (model prog w) (A.deeper (callEnvC fd L f)) (execs body (callEnvC fd L f)) (fun fl s' => R (.ok (.ret (match fl with | .ret v => v | _ => .none))) s')
        (fun e s' => wpAny (model prog w) (A.deeper (callEnvC fd L f)) (leaving (callEnvC fd L f) e) (fun _ s'' => R (.error e) s'') (fun e' s'' => R (.error e') s'') s') s₁) :
    codeAny (model prog w) A (.call (.ref f) ⟨vals, []⟩) R s := by
  obtain ⟨o, ho, hd⟩ := D.obj
  refine codeAny_call_function hroom (G.stay _ _ ho) hd D.co D.gen D.body (D.code.keeps G.stay) (wpAny_mono hbind (fun b s' hs => ?_) fun _ _ q => q.elim)
  obtain ⟨rfl, rfl⟩ := hs
  rw [D.clo]
  refine wpAny_newFunctionEnv_cells D.kind hkind fun env he s₂ x => ?_
  subst he
  exact ⟨(e0.lim.keeps G.stay).keeps x.toInCall.keep, codeAny_func (h s₂ _ (Nat.le_refl _) (fm_enterZ Z e0 G hb hZ D.kind x))⟩
end

/-- what is known of an attribute of the instances' own dict -/
structure BA (K : Frag) (C : Addr) (name : Str) : Prop where
  pg : plainGet K C name = true
  hd : hasDictIn K C = true
  fi : findIn K (.ref C) name = some none
  sa : findIn K (.ref C) "__setattr__" = some (some (.builtin "object.__setattr__"))
  po : plainOver K C = true
  ta : takerIn K C name = some none

section
variable {prog : Program} {w : World} {h00 : Heap} {mg mb : Str → Option Value} {A₀ A : Around} {B₀ : Led} {s₀ : Shared} {env : Env} {m cm : Str → Option Value} {Z : List (Addr × Obj)} {B : Led} {s : Shared} {K : Frag} {x C dx : Addr} {ox : Obj} {es : List DictEntry} {n : Nat} {name : Str} {v : Value} {E : Value → Shared → Prop}
theorem getdict {expr : Bool} {Q : Value → Shared → Prop} (T : BA K C name) (X : K.In s.heap) (I : InstAt s.heap x ox C (some (dictOf es n))) (hl : getL name es = some (some v)) (hv : handedIn v = true) (h : ∀ tk, Q v { s with toks := tk }) :
    wpAny (model prog w) A (getAttr (.ref x) name expr) Q E s :=
  get_value X I (plainGet_of T.pg).1 (findObj_own T.hd T.fi rfl hl) hv (h _)

theorem Fm.setdict {Q : Unit → Shared → Prop} (F : Fm h00 mg mb A₀ B₀ s₀ env m cm ((dx, dictOf es n) :: Z) B s) (T : BA K C name) (hZ : dx ∉ Z.map (·.1)) (X : K.In s.heap) (I : InstAt s.heap x ox C (some (dictOf es n))) (hd : ox.dict = some dx)
    (hl : (getL name es).isSome = true) (hz : (putL name (PyData.keyHash w.params name) (.str name (s.toks + 1)) v es).length ≤ 1000)
    (h : ∀ s' tk, Fm h00 mg mb A₀ B₀ s₀ env m cm ((dx, dictOf (putL name (PyData.keyHash w.params name) (.str name tk) v es) (putN name es n)) :: Z) B s' → Q () s') : wpAny (model prog w) A (setAttr (.ref x) name v) Q E s := by
  obtain ⟨p1, p2, p3, p4⟩ := F.pin _ (.head _)
  have Fr0 : Fr (hideAll (cut s.heap env.locals) [dx]) env.locals s.heap m := ⟨F.rd.ns, fun b o q => cut_of (of_hideAll _ q), by rw [hideAll_size]; exact cut_size _ _⟩
  have N0 : News (hideAll (cut s.heap env.locals) [dx]) env.locals s.heap ([] ++ (dx, dictOf es n) :: above s.heap env.locals dx) := fun q hq => by
    rcases List.mem_cons.mp hq with rfl | hq
    · exact ⟨p1, p2, hideAll_none _ (.head _)⟩
    · obtain ⟨a, b, c⟩ := above_mem hq
      refine ⟨a, fun e => Nat.lt_irrefl _ (e ▸ b), ?_⟩
      cases q' : (hideAll (cut s.heap env.locals) [dx]).get? q.1 with
      | none => rfl
      | some o => have := of_hideAll _ q'; rw [cut_ge (Nat.le_of_lt b)] at this; cases this
  refine set_plain X I T.sa (osa_dict (s := { s with toks := s.toks + 1 }) Fr0 N0 X I hd T.po T.ta T.hd hl (fun _ h => (nomatch h)) (fun q hq => (above_mem hq).2.2) (putName_dict _ _ _ _ _ _) rfl hz fun h' F' N' => ?_)
  refine h _ (s.toks + 1) (F.but2 hZ (fun b o hb hL q => ?_) F'.ns (N' _ (.head _)).1)
  rcases Nat.lt_or_ge b env.locals with hlt | hge
  · exact F'.keep b o (hideAll_get _ ((cut_lt hlt).trans q) (by simpa using hb))
  · exact (N' _ (.tail _ (mem_above q (Nat.lt_of_le_of_ne hge (Ne.symm hL)) hb))).1
end
end Mine

end
section
open PySem PySem.W PyProof.Rows PySem.Calls
set_option Elab.async false
set_option autoImplicit false
set_option linter.unusedVariables false
set_option maxRecDepth 100000
namespace Mine
section
variable {M : Model} {A : Around} {E : Value → Shared → Prop} {s : Shared} {env : Env}
theorem wpC_execs_cons {st : Stmt} {rest : List Stmt} {Q : Flow → Shared → Prop} (h : wpC M A (exec st env) (fun f s' => match f with | .next => wpC M A (execs rest env) Q E s' | f => Q f s') E s) : wpC M A (execs (st :: rest) env) Q E s := by
  refine fun Γ p hΓ cl => ?_
  have := (wpAny_execs_cons (M := M) (A := A) (st := st) (rest := rest) (env := env) (Q := Q) (E := E) (s := s))
  show Sem.wp M Γ (do match ← exec st env with | .next => execs rest env | f => pure f) _ _ p s
  exact (wpC_bind (wpC_mono h (fun f s' h' => by cases f <;> first | exact h' | exact wpC_pure h') fun _ _ h' => h')) Γ p hΓ cl
theorem wpC_standAt {pos : Pos} {Q : Unit → Shared → Prop} (h : Q () s) : wpC M A (standAt pos) Q E s := .any (wpAny_standAt h)
theorem wpC_Assign_Attribute {o attr pos' value pos} {Q : Flow → Shared → Prop}
    (h : wpC M A (eval value env) (fun v s₁ => wpAny M A (eval o env) (fun ov s₂ => wpAny M A (setAttr ov attr v) (fun _ => Q .next) E s₂) E s₁) E s)
    (hs : swapsWith value (some (.Attribute o attr pos')) pos.line env = pure false := by rfl) :
    wpC M A (exec (.Assign [.Attribute o attr pos'] value pos) env) Q E s := by
  rw [plainObj_exec_Assign_Attribute o attr pos' value pos hs]
  refine wpC_bind (wpC_standAt (wpC_bind (wpC_mono h (fun v s₁ h₁ => ?_) fun _ _ x => x)))
  refine .any (wpAny_bind ?_)
  rw [assign_Attribute]
  refine wpAny_bind (wpAny_holding (wpAny_mono h₁ (fun ov s₂ h₂ => wpAny_bind (wpAny_standAt (wpAny_bind (wpAny_holding (wpAny_mono h₂ (fun u s₃ h₃ => ?_) fun _ _ x => x))))) fun _ _ x => x))
  exact wpAny_release (wpAny_pure h₃)
theorem wpC_IfExp {test body orelse : PySem.Expr} {pos : Pos} {Q : Value → Shared → Prop}
    (h : wpAny M A (isTrue test env (eval test env)) (fun b s₁ => if b then wpC M A (eval body env) Q E s₁ else wpC M A (eval orelse env) Q E s₁) E s) :
    wpC M A (eval (.IfExp test body orelse pos) env) Q E s := by
  rw [arm_eval_IfExp]
  refine wpC_bindA (wpAny_mono h (fun b s₁ h₁ => ?_) fun _ _ x => x)
  cases b <;> exact h₁
theorem wpC_Call_ofName {x : Str} {np pos : Pos} {args : List PySem.Expr} {keywords : List Keyword} {Q : Value → Shared → Prop}
    (h : wpAny M A (eval (.Name x np) env) (fun f s₁ => wpC M A (callWith pos f [] (backTo pos (starEach args env)) (backToKw pos (keywordEach keywords env))) Q E s₁) E s) :
    wpC M A (eval (.Call (.Name x np) args keywords pos) env) Q E s := by
  show wpC M A (do callWith pos (← eval (.Name x np) env) [] (backTo pos (starEach args env)) (backToKw pos (keywordEach keywords env))) Q E s
  exact wpC_bindA h
theorem callWith_typeC {pos : Pos} {T : String} {args : List (Bool × Sem Value)} {Q : Value → Shared → Prop} (hplain : args.any (·.1) = false)
    (h : wpAny M A (evalArgs (.type T) true args []) (fun a s₁ => wpC M A (call (.type T) ([] ++ a.pos) a.kw) Q E s₁) E s) :
    wpC M A (callWith pos (.type T) [] args []) Q E s := by
  unfold callWith
  refine wpC_bindA (wpAny_holding (wpAny_mono h (fun a s₁ h₁ => wpC_bindA (wpAny_standAt ?_)) fun _ _ x => x))
  simp only [hplain, List.any_nil, Bool.or_false]
  refine wpC_bindA (wpAny_pure ?_)
  exact wpC_bind (wpC_mono h₁ (fun r s₂ hr => .any (wpAny_bind (wpAny_holding (wpAny_point (wpAny_pure hr))))) fun _ _ x => x)
end

/-- a default's tuple -/
def Tup1 (h00 : Heap) (td : Addr) (v : Value) : Prop := ∃ cl od n sl, h00.get? td = some ⟨cl, od, .seq #[v] n, sl⟩
structure BI (h00 : Heap) (K : Frag) (C fInit td : Addr) : Prop where
  X : K.In h00
  dT : Tup1 h00 td .none
  dI : IsMeth h00 fInit 15 1 "BytesIO.__init__" (.ref td)
  buf : BA K C "_BytesIO__buf"
  pos : BA K C "_BytesIO__pos"
structure Nm4 (mg mb : Str → Option Value) : Prop where
  type : mg "type" = none ∧ mb "type" = some (.type "type")
  bytes : mg "bytes" = none ∧ mb "bytes" = some (.type "bytes")
  bytearray : mg "bytearray" = none ∧ mb "bytearray" = some (.type "bytearray")

/-- the entries of a stream's own dict -/
abbrev ents (h₁ h₂ : Int) (k₁ k₂ : Tok) (v₁ v₂ : Value) : List DictEntry := [⟨h₁, .str "_BytesIO__buf" k₁, v₁⟩, ⟨h₂, .str "_BytesIO__pos" k₂, v₂⟩]
def Ent (es : List DictEntry) (bb : Addr) (p : Nat) : Prop := ∃ h₁ h₂ k₁ k₂ t, es = ents h₁ h₂ k₁ k₂ (.ref bb) (.int (p : Int) t)
theorem ents_buf {h₁ h₂ : Int} {k₁ k₂ : Tok} {v₁ v₂ : Value} : getL "_BytesIO__buf" (ents h₁ h₂ k₁ k₂ v₁ v₂) = some (some v₁) := by
  rfl
theorem ents_pos {h₁ h₂ : Int} {k₁ k₂ : Tok} {v₁ v₂ : Value} : getL "_BytesIO__pos" (ents h₁ h₂ k₁ k₂ v₁ v₂) = some (some v₂) := by
  rfl
theorem ents_put {h₁ h₂ h : Int} {k₁ k₂ : Tok} {k v v₁ v₂ : Value} : putL "_BytesIO__pos" h k v (ents h₁ h₂ k₁ k₂ v₁ v₂) = ents h₁ h₂ k₁ k₂ v₁ v := by
  rfl
theorem ents_new {h₁ h₂ : Int} {k₁ k₂ : Tok} {v₁ v₂ : Value} : putL "_BytesIO__pos" h₂ (.str "_BytesIO__pos" k₂) v₂ (putL "_BytesIO__buf" h₁ (.str "_BytesIO__buf" k₁) v₁ []) = ents h₁ h₂ k₁ k₂ v₁ v₂ := by
  rfl
def Ins (h : Heap) (x C dx : Addr) : Prop := ∃ sl, h.get? x = some { cls := .ref C, dict := some dx, data := .plain, slots := sl }
def Bys (h : Heap) (bb : Addr) (b : Array UInt8) : Prop := ∃ sl, h.get? bb = some { cls := .type "bytearray", data := .bytearray b, slots := sl }
theorem Kp.ins {fr : List Addr} {h h' : Heap} {x C dx : Addr} (k : Kp fr h h') (i : Ins h x C dx) : Ins h' x C dx := by
  obtain ⟨sl, e⟩ := i
  obtain ⟨sl', e'⟩ := k.slot _ _ e
  exact ⟨sl', e'⟩
theorem Kp.bys {fr : List Addr} {h h' : Heap} {bb : Addr} {b : Array UInt8} (k : Kp fr h h') (i : Bys h bb b) : Bys h' bb b := by
  obtain ⟨sl, e⟩ := i
  obtain ⟨sl', e'⟩ := k.slot _ _ e
  exact ⟨sl', e'⟩
theorem Ins.hid {h : Heap} {x C dx : Addr} (i : Ins h x C dx) (l : List Addr) (hl : x ∉ l) : Ins (hideAll h l) x C dx := by
  obtain ⟨sl, e⟩ := i
  exact ⟨sl, hideAll_get l e hl⟩
theorem Bys.hid {h : Heap} {x : Addr} {b : Array UInt8} (i : Bys h x b) (l : List Addr) (hl : x ∉ l) : Bys (hideAll h l) x b := by
  obtain ⟨sl, e⟩ := i
  exact ⟨sl, hideAll_get l e hl⟩
theorem Ins.inst {h : Heap} {x C dx : Addr} {od : Obj} (i : Ins h x C dx) (hd : h.get? dx = some od) : ∃ ox, ox.dict = some dx ∧ InstAt h x ox C (some od) := by
  obtain ⟨sl, e⟩ := i
  exact ⟨_, rfl, e, rfl, rfl, hd⟩
abbrev baObj (b : Array UInt8) : Obj := { cls := .type "bytearray", data := .bytearray b }

section
variable {prog : Program} {w : World} {h00 : Heap} {mg mb : Str → Option Value} {A : Around} {B : Led} {s : Shared} {K : Frag} {C fI td x dx : Addr}
theorem bind_init {ann : Option Addr} {pm cd doc : Value} {h : Heap} {td : Addr} {g : Array GenState} {d : Drawn} {t : Nat} {os : OsState} {a b : Value} (hT : Tup1 h td .none) :
    wpAny (model prog w) A (bindArgs (fdM 15 1 "BytesIO.__init__" (.ref td) .none ann pm cd doc) ⟨[a, b], []⟩) (fun bs s' => bs = ([("self", a), ("initial_bytes", b)] : List (Str × Value)) ∧ s' = ⟨h, g, d, t, os⟩) (fun _ _ => False) ⟨h, g, d, t, os⟩ := by
  obtain ⟨cl, od, n, sl, e⟩ := hT
  unfold bindArgs
  repeat lk
  exact ⟨rfl, rfl⟩

theorem init_meets {b : Array UInt8} {t : Tok} {R : Result → Shared → Prop} (T : BI h00 K C fI td) (N : Nm4 mg mb) (e0 : Env0 h00 mg mb) (G : Gl h00 A s.heap) (hb : Has s.heap B) (hroom : A.depth < recursionLimit) (hsz : b.size ≤ 16777216)
    (hZ : Own h00 A B s.heap [(dx, emptyDict)]) (hx : Ins s.heap x C dx) (hne : x ≠ dx)
    (hR : ∀ s' bb es n, Stp A B (hid s [dx]) B s' → s'.heap.get? dx = some (dictOf es n) → Bys s'.heap bb b → s.heap.get? bb = none → bb ≠ dx → Ent es bb 0 → R (.ok (.ret (.ref x))) s') :
    codeC (model prog w) A (.call (.ref fI) ⟨[.ref x, .bytes b t], []⟩) (InitBack x R) s := by
  obtain ⟨kwd, ann, pm, cd, doc, rfl, D⟩ := T.dI
  obtain ⟨cl, od, n, sl, hT⟩ := T.dT
  refine call_codeC (mg := mg) (mb := mb) (binds := [("self", .ref x), ("initial_bytes", .bytes b t)]) [(dx, emptyDict)] e0 G hb hZ D hroom (by obtain ⟨h, g, d, tk, os⟩ := s; exact bind_init ⟨_, _, _, _, G.stay _ _ hT⟩) ?_ fun s₁ L hL F => ?_
  · intro x hx
    simp only [List.mem_cons, List.not_mem_nil, or_false] at hx
    rcases hx with rfl | rfl <;> exact .inl (by rfl)
  have h1 : (bindL (callEnvC (fdM 15 1 "BytesIO.__init__" (.ref td) .none ann pm cd doc) L fI).kindOf [("self", .ref x), ("initial_bytes", .bytes b t)] fun _ => none) "self" = some (.ref x) := by rfl
  have h2 : (bindL (callEnvC (fdM 15 1 "BytesIO.__init__" (.ref td) .none ann pm cd doc) L fI).kindOf [("self", .ref x), ("initial_bytes", .bytes b t)] fun _ => none) "initial_bytes" = some (.bytes b t) := by rfl
  generalize (bindL (callEnvC (fdM 15 1 "BytesIO.__init__" (.ref td) .none ann pm cd doc) L fI).kindOf [("self", .ref x), ("initial_bytes", .bytes b t)] fun _ => none) = m at F h1 h2
  refine wpC_execs_cons (.any (wpAny_If (wpAny_isTrue_BoolOp (wpAny_allTrue_And_cons (wpAny_isTrue_Compare1 ?_)))))
  refine F.rd.name_l h2 (wpAny_Constant_none ?_)
  refine wpAny_isNot_other (by first | rfl | decide) (by intro e; cases e) (wpAny_truthy_bool ?_)
  rw [if_pos rfl]
  refine wpAny_allTrue_And_cons (wpAny_isTrue_Compare1 ?_)
  refine callT1 (fun Q' hq => F.rd.name_b N.type.1 N.type.2 hq) (F.rd.name_l h2 (call_type_of (typeIs_bytes _ _ _) (by decide) ?_))
  refine F.rd.name_b N.bytes.1 N.bytes.2 (wpAny_isNot_self (by first | rfl | decide) (wpAny_truthy_bool ?_))
  rw [if_neg (by decide), if_neg (by decide)]
  refine wpAny_execs_nil ?_
  dsimp only
  refine wpC_execs_cons (wpC_Assign_Attribute (wpC_IfExp (wpAny_isTrue_Compare1 ?_)))
  refine F.rd.name_l h2 (wpAny_Constant_none ?_)
  refine wpAny_is_other (by first | rfl | decide) (by intro e; cases e) (wpAny_truthy_bool ?_)
  rw [if_neg (by decide)]
  refine wpC_Call_ofName (F.rd.name_b N.bytearray.1 N.bytearray.2 ?_)
  refine callWith_typeC (by rfl) (evalArgs_plain (spliced_cons (F.rd.name_l h2 (spliced_nil ?_))))
  refine ba_make hsz fun h' hk hS => ?_
  have y : Stp (A.deeper (callEnvC (fdM 15 1 "BytesIO.__init__" (.ref td) .none ann pm cd doc) L fI)) B s₁ B { s₁ with heap := h' } := .keeps F.rd.has hk
  have F₁ := F.go y
  refine F₁.rd.name_l h1 ?_
  have hbb : s₁.heap.objs.size ≠ dx := fun e => by
    have := (F.pin _ (.head _)).1
    rw [← e] at this
    exact Nat.lt_irrefl _ (Heap.lt_size this)
  have F₁ := (F₁.addpin (o := baObj b) F hS (fresh_size _) (fun xs n q => by cases q)).sub (Z' := [(dx, emptyDict), (s₁.heap.objs.size, baObj b)]) (fun p hp => mem2 hp)
  have hdx : dx ∉ [(s₁.heap.objs.size, baObj b)].map (·.1) := by simpa using fun e => hbb e.symm
  have hx' : ∀ {s' : Shared} {B' : Led}, Stp A B (hid s [dx]) B' s' → Ins s'.heap x C dx := fun z => z.kp.ins (hx.hid [dx] (by simpa using hne))
  obtain ⟨ox, hox, I⟩ := (hx' F₁.stp).inst (F₁.pin _ (.head _)).1
  refine Fm.setdict (es := []) (n := 0) F₁ T.buf hdx (T.X.keeps F₁.rd.gl.stay) I hox (by rfl) (by simp [putL]) fun s₂ tk F₂ => ?_
  dsimp only
  refine wpC_execs_cons (.any (plainObj_wpAny_Assign_Attribute ?_))
  refine wpAny_Constant_int ?_
  refine Rd.name_l (F₂.lt _).rd h1 ?_
  have F₃ := F₂.lt (s₂.toks + 1)
  obtain ⟨ox, hox, I⟩ := (hx' F₃.stp).inst (F₃.pin _ (.head _)).1
  refine Fm.setdict F₃ T.pos hdx (T.X.keeps F₃.rd.gl.stay) I hox (by rfl) (by rw [ents_new]; exact (by decide : 2 ≤ 1000)) fun s₄ tk' F₄ => ?_
  rw [ents_new] at F₄
  dsimp only
  refine .any (wpAny_execs_nil ?_)
  have hdn : s.heap.get? dx = some emptyDict := (hZ _ (.head _)).1
  have hold : (hid s [dx]).heap.get? s₁.heap.objs.size = none := by
    cases q : (hid s [dx]).heap.get? s₁.heap.objs.size with
    | none => rfl
    | some o =>
      obtain ⟨sl, e⟩ := F.stp.kp.slot _ _ q
      exact absurd (Heap.lt_size e) (Nat.lt_irrefl _)
  refine ⟨rfl, hR _ s₁.heap.objs.size _ _ F₄.stp (F₄.pin _ (.head _)).1 ?_ ?_ hbb ⟨_, _, _, _, _, rfl⟩⟩
  · exact ⟨_, (F₄.pin _ (.tail _ (.head _))).1⟩
  · cases q : s.heap.get? s₁.heap.objs.size with
    | none => rfl
    | some o => have := hideAll_get [dx] q (by simpa using hbb); have h' : (hideAll s.heap [dx]).get? s₁.heap.objs.size = none := hold; rw [h'] at this; cases this
end
end Mine

end
section
open PySem PySem.W PyProof.Rows PySem.Calls Builtin
set_option Elab.async false
set_option autoImplicit false
set_option linter.unusedVariables false
set_option maxRecDepth 100000
namespace Mine
theorem ba_slot_len : Slot "bytearray" "__len__" "bytearray.__len__" :=
  .of (owner := "bytearray") (n := "__len__") (by rw [typeLookup_type, builtinLookup_eq_fast]; kernel_rfl) (by decide +kernel) (by decide +kernel) (by decide +kernel)
    (by first | exact .inl (by decide +kernel) | exact .inr (by decide +kernel)) (by rw [isSubtype_type]; kernel_rfl)
theorem ba_slot_get : Slot "bytearray" "__getitem__" "bytearray.__getitem__" :=
  .of (owner := "bytearray") (n := "__getitem__") (by rw [typeLookup_type, builtinLookup_eq_fast]; kernel_rfl) (by decide +kernel) (by decide +kernel) (by decide +kernel)
    (by first | exact .inl (by decide +kernel) | exact .inr (by decide +kernel)) (by rw [isSubtype_type]; kernel_rfl)
theorem ba_entry_len : entryFor table "bytearray.__len__" = some Builtin.«bytearray.__len__» := by first | exact entryFor_of_fast (by kernel_rfl) | exact entryFor_of_tree (by kernel_rfl)
theorem ba_entry_get : entryFor table "bytearray.__getitem__" = some Builtin.«bytearray.__getitem__» := by first | exact entryFor_of_fast (by kernel_rfl) | exact entryFor_of_tree (by kernel_rfl)
theorem ba_args_len (a : Value) : argsOk "bytearray.__len__" ⟨[a], []⟩ := by unfold argsOk; kernel_rfl
theorem ba_args_get (a b : Value) : argsOk "bytearray.__getitem__" ⟨[a, b], []⟩ := by unfold argsOk; kernel_rfl
theorem ba_no_bytes : typeLookup (.type "bytearray") "__bytes__" = pure none := by rw [typeLookup_type, builtinLookup_eq_fast]; kernel_rfl
theorem ba_no_index : typeLookup (.type "bytearray") "__index__" = pure none := by rw [typeLookup_type, builtinLookup_eq_fast]; kernel_rfl
theorem ba_buffer : typeLookup (.type "bytearray") "__buffer__" = pure (some (.builtin "bytearray.__buffer__")) := by rw [typeLookup_type, builtinLookup_eq_fast]; kernel_rfl
theorem Bys.ty {s : Shared} {bb : Addr} {b : Array UInt8} (i : Bys s.heap bb b) : s.TypeIs (.ref bb) "bytearray" := by
  obtain ⟨sl, e⟩ := i
  exact ⟨_, e, rfl⟩
section
variable {prog : Program} {w : World} {A : Around} {E : Value → Shared → Prop} {s : Shared} {bb : Addr} {b : Array UInt8}
theorem ba_payload {M : Model} {Q : Array UInt8 → Shared → Prop} (i : Bys s.heap bb b) (h : Q b s) : wpAny M A (Builtin.Bytes.payload (.ref bb)) Q E s := by
  obtain ⟨sl, e⟩ := i
  unfold Builtin.Bytes.payload Builtin.Bytes.payload?
  exact wpAny_bind (wpAny_bind (wpAny_load e (wpAny_pure (wpAny_pure h))))
theorem ba_len {Q : Value → Shared → Prop} (i : Bys s.heap bb b) (hfit : b.size ≤ 1099511627776) (h : ∀ t tk, Q (.int b.size t) { s with toks := tk }) : wpAny (model prog w) A (call (.builtin "len") [.ref bb]) Q E s := by
  refine Calls.call_function_entry kind_len plain_len entry_len (args_len1 _) ?_
  unfold Builtin.«len»
  refine wpAny_bind (m := oneArg "len" _) (wpAny_pure ?_)
  have g : Meets (Builtin.«bytearray.__len__» ⟨[.ref bb], []⟩) (fun _ R s' => s' = s ∧ R (.ok (.ret (.int b.size s.toks))) { s with toks := s.toks + 1 }) := .of_wp fun prog w A R s' hs => by
    obtain ⟨rfl, hR⟩ := hs
    show wpAny _ _ (Builtin.Bytes.payload (.ref bb) >>= fun x => _) _ _ _
    refine wpAny_bind (ba_payload i ?_)
    exact wpAny_bind (wpAny_mkInt (wpAny_pure ⟨_, rfl, hR⟩))
  refine wpAny_bind (m := callSpecial? (.ref bb) (Str.ofString "__len__")) (wpAny_callSpecial?_slot (name := Str.ofString "__len__") i.ty ba_slot_len (call_meets ba_slot_len i.ty ba_entry_len (ba_args_len _) g ⟨rfl, ?_⟩))
  show wpAny _ _ _ _ _ { s with toks := s.toks + 1 }
  refine wpAny_bind (wpAny_holding (wpAny_pure ?_))
  refine wpAny_bind (wpAny_letGo ?_)
  have h0 : ¬ (b.size : Int) < 0 := by omega
  have hf : ¬ (b.size : Int) ≥ 2 ^ 63 := by omega
  show wpAny _ _ (if (b.size : Int) < 0 then _ else _) _ _ _
  rw [if_neg h0]
  show wpAny _ _ (if (b.size : Int) ≥ 2 ^ 63 then _ else _) _ _ _
  rw [if_neg hf]
  exact wpAny_bind (wpAny_mkInt (wpAny_pure ⟨_, rfl, h _ _⟩))

def cutB (b : Array UInt8) (i j : Nat) : Array UInt8 := ((b.toList.drop i).take (j - i)).toArray
theorem cutB_size {b : Array UInt8} {i j : Nat} (h : i ≤ j) (h' : j ≤ b.size) : (cutB b i j).size = j - i := by
  simp [cutB]; omega
theorem ba_slice {a : Addr} {i j : Nat} {t u : Tok} {Q : Value → Shared → Prop} (I : Bys s.heap bb b) (hS : s.heap.IsSliceOf a (.int (i : Int) t) (.int (j : Int) u) .none) (hi : i ≤ b.size) (hj : j ≤ b.size) (hsz : b.size ≤ 16777216)
    (h : Q (.ref s.heap.objs.size) { s with heap := s.heap.push (baObj (cutB b i j)) }) : wpAny (model prog w) A (getItem (.ref bb) (.ref a)) Q E s := by
  refine getItem_meets (S := fun _ R s' => s' = s ∧ R (.ok (.ret (.ref s.heap.objs.size))) { s with heap := s.heap.push (baObj (cutB b i j)) }) I.ty (by decide) ba_slot_get ba_entry_get (ba_args_get _ _) (.of_wp fun prog w A R s' hs => ?_) ⟨rfl, h⟩
  obtain ⟨rfl, hR⟩ := hs
  obtain ⟨o, ho, hc, hd⟩ := hS
  have hT : s'.TypeIs (.ref a) "slice" := ⟨o, ho, hc⟩
  show wpAny _ _ (Bytes.subscript? (.ref a) >>= fun r => _) _ _ s'
  refine wpAny_bind ?_
  unfold Bytes.subscript?
  refine wpAny_bind (wpAny_specialOf hT slice_no_index (wpAny_pure ?_))
  refine wpAny_bind (wpAny_typeOf hT ?_)
  show wpAny _ _ (Bytes.sliceParts (.ref a) >>= fun r => _) _ _ s'
  refine wpAny_bind ?_
  unfold Bytes.sliceParts
  refine wpAny_bind (wpAny_field (x := .none) ho hd rfl ?_)
  kby_none
  refine wpAny_ite (KBy.ite_no (show ¬ ((Value.none == rawInt 0) = true) from Bool.false_ne_true) ?_)
  refine wpAny_bind (wpAny_field (x := .int _ _) ho hd rfl ?_)
  kby_int
  refine wpAny_bind (wpAny_field (x := .int _ _) ho hd rfl ?_)
  kby_int
  refine wpAny_pure ?_
  show wpAny _ _ (Bytes.payload (.ref bb) >>= fun r => _) _ _ s'
  refine wpAny_bind (ba_payload I ?_)
  have go : wpAny (model prog w) A.in1 (sliceIndices (rawPart (some (i : Int))) (rawPart (some (j : Int))) (rawPart none) b.size) (fun r s₁ => r = sliceBounds (some (i : Int)) (some (j : Int)) none b.size ∧ s₁ = s') (fun _ _ => False) s' :=
    wpAny_of_eq (sliceIndices_raw (some (i : Int)) (some (j : Int)) none b.size (fun e => nomatch e)) ⟨rfl, rfl⟩
  refine wpAny_bind (wpAny_mono go (fun r s₁ hr => ?_) fun _ _ e => e.elim)
  obtain ⟨rfl, rfl⟩ := hr
  have e : Builtin.Bytes.sliced b (sliceBounds (some (i : Int)) (some (j : Int)) none b.size).1 (sliceBounds (some (i : Int)) (some (j : Int)) none b.size).2.1 (sliceBounds (some (i : Int)) (some (j : Int)) none b.size).2.2 = cutB b i j := by
    have := KBc.picked_eq b (some (i : Int)) (some (j : Int))
    unfold KBy.picked at this
    rw [this]
    simp only [Option.elim, clipAt_nat, Nat.min_eq_left hi, Nat.min_eq_left hj]
    rfl
  show wpAny _ _ (Builtin.Bytes.newBytearray (Builtin.Bytes.sliced b (sliceBounds (some (i : Int)) (some (j : Int)) none b.size).1 (sliceBounds (some (i : Int)) (some (j : Int)) none b.size).2.1 (sliceBounds (some (i : Int)) (some (j : Int)) none b.size).2.2) >>= fun r => ret r) _ _ _
  rw [e]
  unfold Builtin.Bytes.newBytearray
  have hc : (cutB b i j).size ≤ b.size := by simp [cutB]; omega
  refine wpAny_bind (wpAny_newObj_type (wpAny_pure ⟨_, rfl, hR⟩) (by show (cutB b i j).size ≤ sizeLine; rw [sizeLine_eq]; omega))

theorem bytes_of_ba {Q : Value → Shared → Prop} (I : Bys s.heap bb b) (hsz : b.size ≤ 16777216) (h : ∀ t tk, Q (.bytes b t) { s with toks := tk }) : wpAny (model prog w) A (call (.type "bytes") [.ref bb]) Q E s := by
  have hT := I.ty
  refine callType_codes (Q₁ := fun obj s₁ => s₁.TypeIs obj "bytes" ∧ Q obj s₁) F.bm_called (F.bm_typeCall _) F.entry_object_init ?_ fun obj s₁ h₁ =>
    ⟨h₁.1, F.args_object_init_2 obj _, object_init_meets F.bm_called.init.lookup F.bm_called.made (by decide) prog w A.in1 _ s₁ ⟨h₁.1, rfl, h₁.2⟩⟩
  refine codeAny_of_tree ?_
  show wpAny _ A.in1.in1 (do checkBuiltinCall "bytes.__new__" ⟨[.type "bytes", .ref bb], []⟩; again (.builtin "bytes.__new__" ⟨[.type "bytes", .ref bb], []⟩)) _ _ s
  refine wpAny_bind (wpAny_of_eq (F.bm_newCall _) (wpAny_pure ⟨plainId_quiet F.bm_plain _, codeAny_builtin F.bm_entry ?_⟩))
  rw [Around.under_plainId F.bm_plain _]
  unfold Builtin.«bytes.__new__»
  refine wpAny_bind (wpAny_of_eq (a := true) rfl ?_)
  refine bm_if_false rfl ?_
  refine wpAny_bind (wpAny_of_eq F.bm_sub ?_)
  refine bm_if_false rfl ?_
  refine wpAny_bind (wpAny_of_eq (F.bm_bind _) ?_)
  refine wpAny_bind (wpAny_of_eq (a := ()) rfl ?_)
  refine wpAny_bind (wpAny_of_eq (a := ()) rfl ?_)
  refine bm_if_false rfl ?_
  refine wpAny_bind (wpAny_specialOf hT ba_no_bytes ?_)
  obtain ⟨sl, e⟩ := id I
  refine wpAny_bind (wpAny_bind ?_)
  show wpAny _ _ (load bb >>= _) _ _ _
  refine wpAny_bind (wpAny_load e ?_)
  refine wpAny_pure (wpAny_pure ?_)
  refine bm_if_false rfl ?_
  refine wpAny_bind (wpAny_specialOf hT ba_no_index ?_)
  refine bm_if_true rfl ?_
  first
    | show wpAny _ _ (Builtin.Bytes.buffer? "bytes.__new__" (.ref bb) true >>= _) _ _ _
    | (refine wpAny_bind ?_; show wpAny _ _ (Builtin.Bytes.buffer? "bytes.__new__" (.ref bb) true >>= _) _ _ _)
  refine wpAny_bind ?_
  unfold Builtin.Bytes.buffer?
  refine wpAny_bind (wpAny_specialOf hT ba_buffer ?_)
  dsimp only
  have own : ∀ {A' : Around} {Q' : Bool → Shared → Prop} {E' : Value → Shared → Prop}, Q' true s → wpAny (model prog w) A' (Builtin.Bytes.slotIsOwn (.ref bb) "__buffer__") Q' E' s := fun {A' Q' E'} hq => by
    unfold Builtin.Bytes.slotIsOwn
    refine wpAny_bind (wpAny_specialOf hT ba_buffer ?_)
    dsimp only
    refine KFB.if_not (by decide +kernel) ?_
    exact wpAny_isInstance (T := "bytearray") (b := true) hT (by rw [show ("bytearray.__buffer__".dropRight ("__buffer__".length + 1)) = "bytearray" by decide +kernel]; exact ba_sub) hq
  refine wpAny_bind (own ?_)
  refine bm_if_false rfl ?_
  refine wpAny_bind (wpAny_specialOf hT ba_buffer ?_)
  show wpAny _ _ (Builtin.Bytes.ownRelease (.ref bb) >>= fun r => _) _ _ _
  refine wpAny_bind (ba_ownRelease e rfl ?_)
  refine bm_if_false rfl ?_
  refine wpAny_bind (ba_payload I (wpAny_pure ?_))
  dsimp only
  refine wpAny_bind (wpAny_rule ?_)
  refine wpAny_bind (wpAny_mkBytes ?_ (by rw [sizeLine_eq]; omega))
  show wpAny _ _ (if (Value.type "bytes" == Value.type "bytes") = true then _ else _) _ _ _
  refine bm_if_true (by decide) ?_
  first
    | exact wpAny_pure ⟨PySem.W.typeIs_bytes _ _ _, h _ _⟩
    | exact wpAny_bind (wpAny_pure (wpAny_pure ⟨PySem.W.typeIs_bytes _ _ _, h _ _⟩))
end
end Mine

end
section
open PySem PySem.W PyProof.Rows PySem.Calls Builtin
set_option Elab.async false
set_option autoImplicit false
set_option linter.unusedVariables false
set_option maxRecDepth 100000
namespace Mine
section
variable {h00 : Heap} {mg mb : Str → Option Value} {A₀ : Around} {B₀ : Led} {s₀ : Shared} {env : Env} {m cm : Str → Option Value} {Z : List (Addr × Obj)} {B B' : Led} {s s' : Shared} {x : Addr} {o o' : Obj}
theorem Fm.offF (F : Fm h00 mg mb A₀ B₀ s₀ env m cm Z B s) {p : Addr × Obj} (hp : p ∈ Z) : p.1 ∉ frs (A₀.deeper env) := fun hm => by
  obtain ⟨h1, h2, h3, h4⟩ := F.pin p hp
  rw [F.frs_eq] at hm
  rcases List.mem_cons.mp hm with e | hm
  · exact h2 e
  · obtain ⟨o, ho⟩ := F.gl0.mem hm
    rw [h4] at ho; cases ho
theorem Fm.own (F : Fm h00 mg mb A₀ B₀ s₀ env m cm Z B s) {Z' : List (Addr × Obj)} (hZ : ∀ p ∈ Z', p ∈ Z) : Own h00 (A₀.deeper env) B s.heap Z' := fun p hp =>
  ⟨(F.pin p (hZ p hp)).1, F.new00 (F.pin p (hZ p hp)).2.2.2, F.offF (hZ p hp), F.offB p (hZ p hp)⟩
/-- a callee has changed an own object -/
theorem Fm.back (F : Fm h00 mg mb A₀ B₀ s₀ env m cm ((x, o) :: Z) B s) (hZ : x ∉ Z.map (·.1)) (y : Stp (A₀.deeper env) B (hid s [x]) B' s') (hx : s'.heap.get? x = some o') (hns : ∀ xs n, o'.data ≠ .seq xs n) :
    Fm h00 mg mb A₀ B₀ s₀ env m cm ((x, o') :: Z) B' s' := by
  obtain ⟨p1, p2, p3, p4⟩ := F.pin _ (.head _)
  have hO := F.own (Z' := [(x, o)]) (fun p hp => by rcases List.mem_singleton.mp hp with rfl; exact .head _)
  have G' := F.rd.gl.hid hO
  have kk := y.kp
  have keep : ∀ b o, b ≠ x → b ∉ frs (A₀.deeper env) → s.heap.get? b = some o → s'.heap.get? b = some o := fun b o hb hf e => kk.keep b o hf (hideAll_get [x] e (by simpa using hb))
  have slot : ∀ b o, b ≠ x → s.heap.get? b = some o → ∃ sl, s'.heap.get? b = some { o with slots := sl } := fun b o hb e => kk.slot b o (hideAll_get [x] e (by simpa using hb))
  have ne0 : ∀ b o, s₀.heap.get? b = some o → b ≠ x := fun b o e q => by rw [q, p4] at e; cases e
  have ns' : s'.heap.Ns env.locals m := by
    obtain ⟨oL, es, ep, ho, hd, r⟩ := F.rd.ns
    obtain ⟨sl, e⟩ := slot _ _ (Ne.symm p2) ho
    exact ⟨_, es, ep, e, hd, r⟩
  refine ⟨⟨F.rd.e0, G'.kp kk, ns', fun n c hc => ?_, y.has⟩, F.gl0, ⟨?_, ⟨fun b o hb e => ?_, fun b o e => ?_⟩, y.has, fun q hq => y.sub q (F.stp.sub q hq), fun q hq => ?_⟩, F.apart, F.newL, F.newC, F.frame, fun p hp => ?_, fun p hp q hq => ?_⟩
  · obtain ⟨oc, hoc, hdc⟩ := F.rd.cell n c hc
    obtain ⟨sl, e⟩ := slot _ _ (Ne.symm (p3 n c hc)) hoc
    exact ⟨_, e, hdc⟩
  · obtain ⟨h₁, t₁, e1⟩ := F.stp.same
    obtain ⟨h₂, t₂, e2⟩ := y.same
    exact ⟨h₂, t₂, by rw [e2, e1]; rfl⟩
  · refine keep b o (ne0 b o e) (fun hm => ?_) (F.stp.kp.keep b o hb e)
    rw [F.frs_eq] at hm
    rcases List.mem_cons.mp hm with q | hm
    · rw [q, F.newL] at e; cases e
    · exact hb hm
  · obtain ⟨sl, e1⟩ := F.stp.kp.slot b o e
    obtain ⟨sl2, e2⟩ := slot b _ (ne0 b o e) e1
    exact ⟨sl2, e2⟩
  · rcases y.new q hq with h | h
    · exact F.stp.new q h
    · refine .inr ?_
      cases r : s₀.heap.get? q.1 with
      | none => rfl
      | some oq =>
        obtain ⟨sl, e1⟩ := F.stp.kp.slot _ oq r
        have := hideAll_get [x] e1 (by simpa using ne0 _ oq r)
        have h' : (hideAll s.heap [x]).get? q.1 = none := h
        rw [h'] at this; cases this
  · rcases List.mem_cons.mp hp with rfl | hp
    · exact ⟨hx, p2, p3, p4⟩
    · obtain ⟨h1, h2, h3, h4⟩ := F.pin p (.tail _ hp)
      exact ⟨keep _ _ (fun e => hZ (List.mem_map.mpr ⟨p, hp, e⟩)) (F.offF (.tail _ hp)) h1, h2, h3, h4⟩
  · rcases List.mem_cons.mp hp with rfl | hp
    · intro e
      obtain ⟨⟨ol, hol, _, n, hd⟩, _⟩ := y.has q hq
      rw [e] at hol
      have hx' : s'.heap.get? x = some o' := hx
      rw [show s'.heap.get? x = some ol from hol] at hx'; cases hx'
      exact hns _ _ hd
    · intro e
      rcases y.new q hq with h | h
      · exact F.offB p (.tail _ hp) q h e
      · have h1 := (F.pin p (.tail _ hp)).1
        have := hideAll_get [x] h1 (by simpa using fun e => hZ (List.mem_map.mpr ⟨p, hp, e⟩))
        have h' : (hideAll s.heap [x]).get? q.1 = none := h
        rw [e, this] at h'; cases h'
end

/-- a def of the text, its qualified name left open -/
def IsM (h00 : Heap) (f : Addr) (c i : Nat) (dV : Value) : Prop := ∃ qual ann pm cd doc, IsDef h00 f (fdM c i qual dV .none ann pm cd doc) (dBody (inOf (topOf c) i))
def IsT (h00 : Heap) (f : Addr) (i : Nat) : Prop := ∃ ann pm cd doc, IsDef h00 f (fdT i ann pm cd doc) (dBody (topOf i))
structure Nm5 (mg mb : Str → Option Value) (fIdx : Addr) : Prop where
  type : mg "type" = none ∧ mb "type" = some (.type "type")
  int : mg "int" = none ∧ mb "int" = some (.type "int")
  len : mg "len" = none ∧ mb "len" = some (.builtin "len")
  bytes : mg "bytes" = none ∧ mb "bytes" = some (.type "bytes")
  index : mg "_index" = some (.ref fIdx)

section
variable {prog : Program} {w : World} {h00 : Heap} {mg mb : Str → Option Value} {A : Around} {B : Led} {s : Shared} {fIdx : Addr}
theorem index_meets {i : Int} {v u : Value} (D : IsT h00 fIdx 10) (N : Nm5 mg mb fIdx) (e0 : Env0 h00 mg mb) (G : Gl h00 A s.heap) (hb : Has s.heap B) (R : Room A 1 4) (hv : kInt.rel B v i) (h0 : -1 ≤ i) (h1 : i ≤ 1099511627776) :
    Con prog w A (call (.ref fIdx) [v, u]) B s (fun B' r => kInt.rel B' r i) := by
  obtain ⟨ann, pm, cd, doc, D⟩ := D
  obtain ⟨t, rfl⟩ := hv
  refine call_def (binds := [("n", .int i t), ("what", u)]) e0 G hb D (by have := R.dp; omega) (by with_unfolding_all rfl) ?_ fun s₁ L F => ?_
  · intro x hx
    simp only [List.mem_cons, List.not_mem_nil, or_false] at hx
    rcases hx with rfl | rfl <;> exact .inl (by rfl)
  have hm : (bindL (callEnvC (fdT 10 ann pm cd doc) L fIdx).kindOf [("n", .int i t), ("what", u)] fun _ => none) "n" = some (.int i t) := by rfl
  generalize (bindL (callEnvC (fdT 10 ann pm cd doc) L fIdx).kindOf [("n", .int i t), ("what", u)] fun _ => none) = m at F hm
  refine wpAny_execs_cons (wpAny_If (wpAny_isTrue_BoolOp (wpAny_allTrue_And_cons (wpAny_isTrue_Compare1 ?_))))
  refine callT1 (fun Q' hq => F.rd.name_b N.type.1 N.type.2 hq) (F.rd.name_l hm (call_type_of (typeIs_int _ _ _) (by decide) ?_))
  refine F.rd.name_b N.int.1 N.int.2 (wpAny_isNot_self (by first | rfl | decide) (wpAny_truthy_bool ?_))
  rw [if_neg (by decide), if_neg (by decide)]
  refine wpAny_execs_nil ?_
  dsimp only
  refine wpAny_execs_cons (wpAny_Assign_Name ?_)
  refine callT1 (fun Q' hq => F.rd.name_b N.int.1 N.int.2 hq) (F.rd.name_l hm (call_int_int ?_))
  refine F.st fun s₂ F₂ => ?_
  dsimp only
  refine wpAny_execs_cons (wpAny_If (wpAny_isTrue_BoolOp (wpAny_allTrue_Or_cons ?_)))
  refine IE.gt (.loc F₂.rd ⟨t, upd_same⟩) .cst rfl fun tk => ?_
  rw [decide_eq_false (by omega)]
  refine wpAny_allTrue_Or_cons (wpAny_isTrue_Compare1 ?_)
  refine (F₂.lt tk).rd.name_l upd_same (wpAny_UnaryOp (wpAny_Constant_int (neg_int (lt_int ?_))))
  refine wpAny_truthy_bool ?_
  rw [decide_eq_false (by omega)]
  refine wpAny_allTrue_Or_nil ?_
  rw [if_neg (by decide)]
  refine wpAny_execs_nil ?_
  dsimp only
  have F₃ := F₂.lt (tk + 1 + 1)
  refine wpAny_execs_cons (wpAny_Return_some (F₃.rd.name_l upd_same ?_))
  exact ⟨_, F₃.stp, t, rfl⟩
end
end Mine

end
section
open PySem PySem.W PyProof.Rows PySem.Calls Builtin
set_option Elab.async false
set_option autoImplicit false
set_option linter.unusedVariables false
set_option maxRecDepth 100000
namespace Mine
/-- a method, found by its name -/
structure MM (K : Frag) (C f : Addr) (name : Str) : Prop where
  pg : plainGet K C name = true
  fi : findIn K (.ref C) name = some (some (.ref f))
  ty : typeIn K (.ref f) = some (.type "function")
structure BR (h00 : Heap) (K : Frag) (C fChk fRead fIdx tr : Addr) (tv : Value) : Prop where
  X : K.In h00
  buf : BA K C "_BytesIO__buf"
  pos : BA K C "_BytesIO__pos"
  chk : MM K C fChk "_BytesIO__check"
  read : MM K C fRead "read"
  dC : IsM h00 fChk 15 2 .none
  dR : IsM h00 fRead 15 20 (.ref tr)
  dT : Tup1 h00 tr tv
  dX : IsT h00 fIdx 10
/-- the parts of a stream that stay -/
structure Strm (h : Heap) (x C dx bb : Addr) (b : Array UInt8) : Prop where
  ins : Ins h x C dx
  bys : Bys h bb b
  ne : x ≠ dx
  ne' : bb ≠ dx
theorem Strm.hid {h : Heap} {x C dx bb : Addr} {b : Array UInt8} (S : Strm h x C dx bb b) : Strm (hideAll h [dx]) x C dx bb b :=
  ⟨S.ins.hid _ (by simpa using S.ne), S.bys.hid _ (by simpa using S.ne'), S.ne, S.ne'⟩
theorem Strm.kp {fr : List Addr} {h h' : Heap} {x C dx bb : Addr} {b : Array UInt8} (S : Strm h x C dx bb b) (k : Kp fr h h') : Strm h' x C dx bb b :=
  ⟨k.ins S.ins, k.bys S.bys, S.ne, S.ne'⟩
section
variable {prog : Program} {w : World} {h00 : Heap} {mg mb : Str → Option Value} {A : Around} {B : Led} {s : Shared} {K : Frag} {x C dx bb fChk fRead fIdx tr : Addr} {tv : Value} {b : Array UInt8} {es : List DictEntry} {n p : Nat}
theorem getbuf {env : Env} {expr : Bool} {Q E : Value → Shared → Prop} (T : BR h00 K C fChk fRead fIdx tr tv) (X : K.In s.heap) (S : Strm s.heap x C dx bb b) (hd : s.heap.get? dx = some (dictOf es n)) (he : Ent es bb p) (h : ∀ tk, Q (.ref bb) { s with toks := tk }) :
    wpAny (model prog w) A (getAttr (.ref x) "_BytesIO__buf" expr) Q E s := by
  obtain ⟨h₁, h₂, k₁, k₂, t, rfl⟩ := he
  obtain ⟨ox, _, I⟩ := S.ins.inst hd
  exact getdict T.buf X I ents_buf rfl h
theorem getpos {env : Env} {expr : Bool} {Q E : Value → Shared → Prop} (T : BR h00 K C fChk fRead fIdx tr tv) (X : K.In s.heap) (S : Strm s.heap x C dx bb b) (hd : s.heap.get? dx = some (dictOf es n)) (he : Ent es bb p) (h : ∀ t tk, Q (.int (p : Int) t) { s with toks := tk }) :
    wpAny (model prog w) A (getAttr (.ref x) "_BytesIO__pos" expr) Q E s := by
  obtain ⟨h₁, h₂, k₁, k₂, t, rfl⟩ := he
  obtain ⟨ox, _, I⟩ := S.ins.inst hd
  exact getdict T.pos X I ents_pos rfl (h t)

theorem check_meets {R : Result → Shared → Prop} (T : BR h00 K C fChk fRead fIdx tr tv) (e0 : Env0 h00 mg mb) (G : Gl h00 A s.heap) (hb : Has s.heap B) (hroom : A.depth < recursionLimit) (hZ : Own h00 A B s.heap [(dx, dictOf es n)]) (S : Strm s.heap x C dx bb b) (he : Ent es bb p)
    (hR : ∀ s', Stp A B (hid s [dx]) B s' → s'.heap.get? dx = some (dictOf es n) → R (.ok (.ret .none)) s') :
    codeAny (model prog w) A (.call (.ref fChk) ⟨[.ref x], []⟩) R s := by
  obtain ⟨qual, ann, pm, cd, doc, D⟩ := T.dC
  refine call_code (mg := mg) (mb := mb) (binds := [("self", .ref x)]) [(dx, dictOf es n)] e0 G hb hZ D hroom (by with_unfolding_all rfl) ?_ fun s₁ L hL F => ?_
  · intro x hx
    rcases List.mem_singleton.mp hx with rfl
    exact .inl (by rfl)
  have h1 : (bindL (callEnvC (fdM 15 2 qual .none .none ann pm cd doc) L fChk).kindOf [("self", .ref x)] fun _ => none) "self" = some (.ref x) := by rfl
  generalize (bindL (callEnvC (fdM 15 2 qual .none .none ann pm cd doc) L fChk).kindOf [("self", .ref x)] fun _ => none) = m at F h1
  refine wpAny_execs_cons (wpAny_If (wpAny_isTrue_Compare1 ?_))
  refine Attribute_name (F.rd.name_l h1 ?_)
  refine getbuf (env := default) T (T.X.keeps F.rd.gl.stay) (S.hid.kp F.stp.kp) (F.pin _ (.head _)).1 he fun tk => ?_
  refine wpAny_Constant_none ?_
  refine wpAny_is_other (by first | rfl | decide) (by intro e; cases e) (wpAny_truthy_bool ?_)
  rw [if_neg (by decide)]
  refine wpAny_execs_nil ?_
  dsimp only
  refine wpAny_execs_nil ?_
  have F₁ := F.lt tk
  exact hR _ F₁.stp (F₁.pin _ (.head _)).1

theorem evalArgs_none {M : Model} {A : Around} {E : Value → Shared → Prop} {s : Shared} {f : Value} {Q : Args → Shared → Prop} (h : Q ⟨[], []⟩ s) : wpAny M A (evalArgs f true [] []) Q E s := by
  unfold evalArgs
  refine wpAny_bind (spliced_nil ?_)
  refine wpAny_bind (wpAny_pure ?_)
  refine wpAny_holding ?_
  exact wpAny_pure h
/-- where a read of z ends -/
def endR (size p : Nat) (z : Int) : Nat := if 0 ≤ z then min (p + z.toNat) size else size
theorem read_meets {z : Int} {vals : List Value} {t : Tok} {R : Result → Shared → Prop} (T : BR h00 K C fChk fRead fIdx tr tv) (N : Nm5 mg mb fIdx) (e0 : Env0 h00 mg mb) (G : Gl h00 A s.heap) (hb : Has s.heap B) (Rm : Room A 2 8) (hZ : Own h00 A B s.heap [(dx, dictOf es n)]) (S : Strm s.heap x C dx bb b) (he : Ent es bb p)
    (hp : p ≤ b.size) (hsz : b.size ≤ 16777216) (hz : -1 ≤ z) (hz2 : z ≤ 1000000)
    (hbind : ∀ qual ann pm cd doc, wpAny (model prog w) A.in1 (bindArgs (fdM 15 20 qual (.ref tr) .none ann pm cd doc) ⟨vals, []⟩) (fun b s' => b = ([("self", .ref x), ("size", .int z t)] : List (Str × Value)) ∧ s' = s) (fun _ _ => False) s)
    (hR : ∀ s' B' es' n' t', Stp A B (hid s [dx]) B' s' → s'.heap.get? dx = some (dictOf es' n') → Ent es' bb (endR b.size p z) → R (.ok (.ret (.bytes (cutB b p (endR b.size p z)) t'))) s') :
    codeAny (model prog w) A (.call (.ref fRead) ⟨vals, []⟩) R s := by
  obtain ⟨qual, ann, pm, cd, doc, D⟩ := T.dR
  refine call_codeD (mg := mg) (mb := mb) (binds := [("self", .ref x), ("size", .int z t)]) [(dx, dictOf es n)] e0 G hb hZ D (by have := Rm.dp; omega) (hbind _ _ _ _ _) ?_ fun s₁ L hL F => ?_
  · intro x hx
    simp only [List.mem_cons, List.not_mem_nil, or_false] at hx
    rcases hx with rfl | rfl <;> exact .inl (by rfl)
  have h1 : (bindL (callEnvC (fdM 15 20 qual (.ref tr) .none ann pm cd doc) L fRead).kindOf [("self", .ref x), ("size", .int z t)] fun _ => none) "self" = some (.ref x) := by rfl
  have h2 : (bindL (callEnvC (fdM 15 20 qual (.ref tr) .none ann pm cd doc) L fRead).kindOf [("self", .ref x), ("size", .int z t)] fun _ => none) "size" = some (.int z t) := by rfl
  generalize (bindL (callEnvC (fdM 15 20 qual (.ref tr) .none ann pm cd doc) L fRead).kindOf [("self", .ref x), ("size", .int z t)] fun _ => none) = m at F h1 h2
  have R' : Room (A.deeper (callEnvC (fdM 15 20 qual (.ref tr) .none ann pm cd doc) L fRead)) 1 5 := (Rm.mono (by omega) (by omega) : Room A 2 8).deeper _
  have St : ∀ {s' : Shared} {B' : Led}, Stp A B (hid s [dx]) B' s' → Strm s'.heap x C dx bb b := fun y => S.hid.kp y.kp
  refine wpAny_execs_cons (wpAny_If (wpAny_isTrue_Compare1 ?_))
  refine F.rd.name_l h2 (wpAny_Constant_none ?_)
  refine wpAny_is_other (by first | rfl | decide) (by intro e; cases e) (wpAny_truthy_bool ?_)
  rw [if_neg (by decide)]
  refine wpAny_execs_nil ?_
  dsimp only
  refine wpAny_execs_cons (wpAny_Assign_Name ?_)
  obtain ⟨annX, pmX, cdX, docX, DX⟩ := T.dX
  refine callF2 (h00 := h00) (.def DX) (fun Q' hq => F.rd.name_g N.index hq) (F.rd.name_l h2 (wpAny_Constant_str ⟨F.rd.gl.stay, ?_⟩))
  have F₀ := F.lt (s₁.toks + 1)
  refine (index_meets T.dX N e0 F₀.rd.gl F₀.rd.has (R'.mono (by omega) (by omega)) ⟨t, rfl⟩ hz (by omega)).use fun v B₁ s₂ y hv => ?_
  obtain ⟨t₂, rfl⟩ := hv
  refine (F₀.go y).st fun s₃ F₃ => ?_
  dsimp only
  refine wpAny_execs_cons (wpAny_Expr_any ?_ rfl rfl)
  refine MethodCall_ (F₃.rd.name_l (upd_get h1) ?_)
  obtain ⟨ox, _, I⟩ := (St F₃.stp).ins.inst (F₃.pin _ (.head _)).1
  refine method_fn (T.X.keeps F₃.rd.gl.stay) I (plainGet_of T.chk.pg).1 (plainGet_of T.chk.pg).2 T.chk.fi T.chk.ty (by obtain ⟨h₁, h₂, k₁, k₂, t, rfl⟩ := he; rfl) ?_
  obtain ⟨qC, annC, pmC, cdC, docC, DC⟩ := id T.dC
  refine callWith_of (P := h00.StaysIn) rfl (Callee.def DC) (evalArgs_none ⟨F₃.rd.gl.stay, ?_⟩)
  refine wpAny_call (check_meets T e0 F₃.rd.gl F₃.rd.has (by have := R'.dp; omega) (F₃.own fun _ h => h) (St F₃.stp) he fun s₄ y₄ hd₄ => ?_)
  have F₄ := F₃.back (by simp) y₄ hd₄ (fun xs n q => by cases q)
  have KX : ∀ {h : Heap}, h00.StaysIn h → K.In h := fun st => T.X.keeps st
  refine wpAny_execs_cons (wpAny_Assign_Name (Attribute_name (F₄.rd.name_l (upd_get h1) ?_)))
  refine getpos (env := default) T (KX F₄.rd.gl.stay) (St F₄.stp) (F₄.pin _ (.head _)).1 he fun t₅ tk₅ => ?_
  refine (F₄.lt tk₅).st fun s₅ F₅ => ?_
  dsimp only
  refine wpAny_execs_cons (wpAny_Assign_Name ?_)
  refine callB1 (fun Q' hq => F₅.rd.name_b N.len.1 N.len.2 hq) (Attribute_name (F₅.rd.name_l (upd_get (upd_get h1)) ?_))
  refine getbuf (env := default) T (KX F₅.rd.gl.stay) (St F₅.stp) (F₅.pin _ (.head _)).1 he fun tk₆ => ?_
  refine ba_len (St F₅.stp).bys (by omega) fun t₆ tk₆ => ?_
  refine (F₅.lt tk₆).st fun s₆ F₆ => ?_
  dsimp only
  refine wpAny_execs_cons (wpAny_If (wpAny_isTrue_Compare1 ?_))
  refine F₆.rd.name_l (upd_get upd_same) (F₆.rd.name_l upd_same (ge_int (wpAny_truthy_bool ?_)))
  by_cases hend : (p : Int) ≥ (b.size : Int)
  · rw [decide_eq_true hend, if_pos rfl]
    refine wpAny_execs_cons (wpAny_Return_some (Constant_bytes ?_))
    have F₇ := F₆.lt (s₆.toks + 1)
    have hpe : p = b.size := by omega
    have e1 : endR b.size p z = p := by unfold endR; split <;> omega
    have := hR _ _ es n s₆.toks F₇.stp (F₇.pin _ (.head _)).1 (e1.symm ▸ he)
    rw [e1] at this
    have e2 : cutB b p p = #[] := by simp [cutB]
    rw [e2] at this
    exact this
  rw [decide_eq_false hend, if_neg (by decide)]
  refine wpAny_execs_nil ?_
  dsimp only
  have hb1 : p ≤ endR b.size p z := by unfold endR; split <;> omega
  have hb2 : endR b.size p z ≤ b.size := by unfold endR; split <;> omega
  /- the common end -/
  have last : ∀ (m' : Str → Option Value) (s' : Shared) (t' t'' : Tok), m' "self" = some (.ref x) → m' "start" = some (.int (p : Int) t') → m' "stop" = some (.int (endR b.size p z : Nat) t'') → Fm h00 mg mb A B (hid s (List.map (fun x => x.fst) [(dx, dictOf es n)])) (callEnvC (fdM 15 20 qual (.ref tr) .none ann pm cd doc) L fRead) m' (bindC (callEnvC (fdM 15 20 qual (.ref tr) .none ann pm cd doc) L fRead).kindOf [("self", .ref x), ("size", .int z t)] fun _ => none) [(dx, dictOf es n)] B₁ s' → wpAny (model prog w) (A.deeper (callEnvC (fdM 15 20 qual (.ref tr) .none ann pm cd doc) L fRead)) (execs ((dBody (inOf (topOf 15) 20)).drop 7) (callEnvC (fdM 15 20 qual (.ref tr) .none ann pm cd doc) L fRead)) (fun fl s' => R (.ok (.ret (match fl with | .ret v => v | _ => .none))) s') (fun e s' => wpAny (model prog w) (A.deeper (callEnvC (fdM 15 20 qual (.ref tr) .none ann pm cd doc) L fRead)) (leaving (callEnvC (fdM 15 20 qual (.ref tr) .none ann pm cd doc) L fRead) e) (fun _ s'' => R (.error e) s'') (fun e' s'' => R (.error e') s'') s') s' := by
    intro m' s' t' t'' g1 g2 g3 F'
    refine wpAny_execs_cons (plainObj_wpAny_Assign_Attribute (F'.rd.name_l g3 (F'.rd.name_l g1 ?_)))
    obtain ⟨h₁, h₂, k₁, k₂, t, rfl⟩ := he
    obtain ⟨ox, hox, I⟩ := (St F'.stp).ins.inst (F'.pin _ (.head _)).1
    refine F'.setdict T.pos (by simp) (KX F'.rd.gl.stay) I hox (by rfl) (by rw [ents_put]; exact (by decide : 2 ≤ 1000)) fun s₈ tk₈ F₈ => ?_
    rw [ents_put] at F₈
    dsimp only
    refine wpAny_execs_cons (wpAny_Return_some ?_)
    refine callT1 (fun Q' hq => F₈.rd.name_b N.bytes.1 N.bytes.2 hq) ?_
    refine Subscript_ ?_
    refine Attribute_name (F₈.rd.name_l g1 ?_)
    refine getbuf (env := default) T (KX F₈.rd.gl.stay) (St F₈.stp) (F₈.pin _ (.head _)).1 ⟨_, _, _, _, _, rfl⟩ fun tk₉ => ?_
    have F₉ := F₈.lt tk₉
    refine wpAny_Slice (wpAny_evalPart_some (F₉.rd.name_l g2 (wpAny_evalPart_some (F₉.rd.name_l g3 (wpAny_evalPart_none ?_)))))
    have y₁ : Stp (A.deeper (callEnvC (fdM 15 20 qual (.ref tr) .none ann pm cd doc) L fRead)) B₁ { s₈ with toks := tk₉ } B₁ { s₈ with heap := s₈.heap.push { cls := .type "slice", data := .fields #[.int (p : Int) t', .int (endR b.size p z : Nat) t'', .none] }, toks := tk₉ } := .keeps F₉.rd.has fun b o e => Heap.get?_push_of_some _ e
    have F₁₀ := F₉.go y₁
    refine tail_any (St F₁₀.stp).bys.ty ba_slot_get.lookup (ba_slice (St F₁₀.stp).bys (Heap.IsSliceOf.new ..) hp hb2 hsz ?_) (by with_unfolding_all rfl)
    have nb : ∀ {h : Heap}, Bys (h.push (baObj (cutB b p (endR b.size p z)))) h.objs.size (cutB b p (endR b.size p z)) := fun {h} => ⟨_, Heap.get?_push_size _ rfl⟩
    refine bytes_of_ba nb (by rw [cutB_size hb1 hb2]; omega) fun t₁₁ tk₁₁ => ?_
    have F₁₁ := F₁₀.go (.keeps F₁₀.rd.has (tk := tk₁₁) fun _ o e => Heap.get?_push_of_some (baObj (cutB b p (endR b.size p z))) e)
    exact hR _ _ _ _ _ F₁₁.stp (F₁₁.pin _ (.head _)).1 ⟨_, _, _, _, _, rfl⟩
  refine wpAny_execs_cons (wpAny_If (wpAny_isTrue_BoolOp (wpAny_allTrue_And_cons (wpAny_isTrue_Compare1 ?_))))
  refine F₆.rd.name_l (upd_get (upd_get upd_same)) (wpAny_Constant_int (ge_int (wpAny_truthy_bool ?_)))
  have F₇ := F₆.lt (s₆.toks + 1)
  by_cases hz0 : z ≥ 0
  · rw [decide_eq_true hz0, if_pos rfl]
    refine wpAny_allTrue_And_cons (wpAny_isTrue_Compare1 ?_)
    refine (IE.add (.loc F₇.rd ⟨_, upd_get upd_same⟩) (.loc F₇.rd ⟨_, upd_get (upd_get upd_same)⟩)).use fun t₈ tk₈ => ?_
    have F₈ := F₇.lt tk₈
    refine F₈.rd.name_l upd_same (lt_int (wpAny_truthy_bool ?_))
    by_cases hlt : (p : Int) + z < (b.size : Int)
    · rw [decide_eq_true hlt, if_pos rfl]
      refine wpAny_allTrue_And_nil ?_
      rw [if_pos rfl]
      refine wpAny_execs_cons (wpAny_Assign_Name ?_)
      refine (IE.to (.add (.loc F₈.rd ⟨_, upd_get upd_same⟩) (.loc F₈.rd ⟨_, upd_get (upd_get upd_same)⟩)) (show (p : Int) + z = (endR b.size p z : Nat) by unfold endR; rw [if_pos hz0]; omega)).use fun t₉ tk₉ => ?_
      refine (F₈.lt tk₉).st fun s₉ F₉ => ?_
      dsimp only
      refine wpAny_execs_nil ?_
      dsimp only
      exact last _ _ _ _ (upd_get (upd_get (upd_get (upd_get h1)))) (upd_get (upd_get upd_same)) upd_same F₉
    · rw [decide_eq_false hlt, if_neg (by decide), if_neg (by decide)]
      refine wpAny_execs_nil ?_
      dsimp only
      have e : endR b.size p z = b.size := by unfold endR; rw [if_pos hz0]; omega
      exact last _ _ _ _ (upd_get (upd_get (upd_get h1))) (upd_get upd_same) (by rw [e]; exact upd_same) F₈
  · rw [decide_eq_false hz0, if_neg (by decide), if_neg (by decide)]
    refine wpAny_execs_nil ?_
    dsimp only
    have e : endR b.size p z = b.size := by unfold endR; rw [if_neg hz0]
    exact last _ _ _ _ (upd_get (upd_get (upd_get h1))) (upd_get upd_same) (by rw [e]; exact upd_same) F₇
end
end Mine

end
section
open PySem PySem.W PyProof.Rows PySem.Calls
set_option Elab.async false
set_option autoImplicit false
set_option linter.unusedVariables false
set_option maxRecDepth 100000
namespace Mine
/-- an exception on its way out, over the state in which all own things are as they are -/
structure Flew (A : Around) (s₁ s' : Shared) (e : Addr) (X : String) (vs : List Value) : Prop where
  same : ∃ h tk, s' = { s₁ with heap := h, toks := tk }
  fl : ∃ base t, Heap.FlyingW base (A.frames.getD []) e (.type X) (.ref t) s'.heap ∧ s'.heap.TupAt t vs ∧ base.get? t = none ∧ (∀ b o, b ∉ frs A → s₁.heap.get? b = some o → base.get? b = some o)
  slots : s₁.heap.UpToSlots s'.heap

section
variable {M : Model} {h00 : Heap} {mg mb : Str → Option Value} {A₀ A : Around} {B₀ : Led} {s₀ : Shared} {env : Env} {m cm : Str → Option Value} {Z : List (Addr × Obj)} {B B' : Led} {s s' s₁ : Shared} {x e : Addr} {o o' : Obj} {X : String} {vs : List Value} {E : Value → Shared → Prop} {Q : Unit → Shared → Prop}
theorem kp_slots {h h' base : Heap} (G : Gl h00 A h) (k : base.StaysIn h') (c : ∀ b o, b ∉ frs A → h.get? b = some o → base.get? b = some o) (sl : h.UpToSlots h') : Kp (frs A) h h' := by
  refine ⟨fun b o hb e => k b o (c b o hb e), fun b o e => ?_⟩
  by_cases hb : b ∈ frs A
  · obtain ⟨_, o', ho', hnf⟩ := G.frames.mem hb
    rw [e] at ho'; cases ho'
    exact sl b o e hnf
  · exact ⟨o.slots, k b o (c b o hb e)⟩
theorem Flew.stp (f : Flew A s₁ s' e X vs) (G : Gl h00 A s₁.heap) (hb : Has s₁.heap B) : Stp A B s₁ B s' := by
  obtain ⟨h, tk, e'⟩ := f.same
  obtain ⟨base, t, fl, _, _, c⟩ := f.fl
  have k := kp_slots G fl.1 c f.slots
  exact ⟨⟨h, tk, e'⟩, k, k.has hb, fun _ h => h, fun _ h => .inl h⟩
theorem frames_of (hs : A₀.frames.isSome = true) : (A₀.deeper env).frames = some (env :: A₀.frames.getD []) := by
  obtain ⟨l, hl⟩ := Option.isSome_iff_exists.mp hs
  simp [Around.deeper, hl]
/-- the frame's own dict, hidden -/
theorem Fm.less (F : Fm h00 mg mb A₀ B₀ s₀ env m cm Z B s) : Stp A₀ B₀ s₀ B (hid s [env.locals]) ∧ (∀ p ∈ Z, (hid s [env.locals]).heap.get? p.1 = some p.2) ∧ Gl h00 A₀ (hid s [env.locals]).heap := by
  have off : ∀ b o, s₀.heap.get? b = some o → b ∉ [env.locals] := fun b o e hm => by
    rw [List.mem_singleton.mp hm, F.newL] at e; cases e
  have st : Stp A₀ B₀ s₀ B (hid s [env.locals]) := by
    obtain ⟨⟨h₁, t₁, e1⟩, k1, a1, b1, c1⟩ := F.stp
    refine ⟨⟨hideAll s.heap [env.locals], t₁, by rw [e1]; rfl⟩, ⟨fun b o hb e => hideAll_get _ (k1.keep b o hb e) (off b o e), fun b o e => ?_⟩, fun p hp => (F.rd.has p hp).keeps fun o q => hideAll_get _ q ?_, b1, c1⟩
    · obtain ⟨sl, e'⟩ := k1.slot b o e
      exact ⟨sl, hideAll_get _ e' (off b o e)⟩
    · simpa using F.offNs hp F.rd.ns
  exact ⟨st, fun p hp => hideAll_get _ (F.pin p hp).1 (by simpa using (F.pin p hp).2.1), F.gl0.kp st.kp⟩
/-- an exception, just made, leaves the frame in which it was made -/
theorem fly_first {h' : Heap} {tk : Nat} (F : Fm h00 mg mb A₀ B₀ s₀ env m cm Z B s₁) (hx : Heap.MadeExc s₁.heap h' e X vs)
    (hQ : ∀ s', Flew A₀ (hid s₁ [env.locals]) s' e X vs → Q () s') : wpAny M (A₀.deeper env) (leaving env (.ref e)) Q E { s₁ with heap := h', toks := tk } := by
  have hfr := frames_of (env := env) F.stack
  have hG := F.rd.gl.frames
  rw [hfr] at hG
  have hin : ∀ env' ∈ (env :: A₀.frames.getD []), ∀ b, env'.frame = some b → b ∈ frs (A₀.deeper env) := fun env' he b hb => by
    unfold frs; rw [hfr]; exact List.mem_filterMap.mpr ⟨env', he, hb⟩
  have hfl := funFrames_hide (as := frs (A₀.deeper env)) hG hin
  refine wpAny_leaves_madeW hfr F.frame (fun b o q => of_hideAll _ q) hfl hx.of fun h'' t x1 x2 x3 x4 => hQ _ ⟨⟨_, _, rfl⟩, ⟨_, t, x1, x2, x3, fun b o hb q => ?_⟩, fun b o q hn => ?_⟩
  · have q' := of_hideAll [env.locals] (show (hideAll s₁.heap [env.locals]).get? b = some o from q)
    refine hideAll_get _ q' fun hm => ?_
    rw [F.frs_eq] at hm
    rcases List.mem_cons.mp hm with r | hm
    · have := hideAll_none [env.locals] (h := s₁.heap) (b := b) (by rw [r]; exact .head _)
      rw [show (hideAll s₁.heap [env.locals]).get? b = some o from q] at this; cases this
    · exact hb hm
  · exact x4 b o (hx.keeps b o (of_hideAll [env.locals] q)) hn
/-- it leaves a further frame -/
theorem fly_on (F : Fm h00 mg mb A₀ B₀ s₀ env m cm Z B s₁) (f : Flew (A₀.deeper env) s₁ s' e X vs)
    (hQ : ∀ s', Flew A₀ (hid s₁ [env.locals]) s' e X vs → Q () s') : wpAny M (A₀.deeper env) (leaving env (.ref e)) Q E s' := by
  have hfr := frames_of (env := env) F.stack
  obtain ⟨⟨h, tk, rfl⟩, ⟨base, t, fl, tup, nt, c⟩, sl⟩ := f
  rw [hfr] at fl
  refine wpAny_leaves_onW hfr F.frame fl fun h'' x1 x4 => hQ _ ⟨⟨_, _, rfl⟩, ⟨base, t, x1, tup.of_slots x4, nt, fun b o hb q => ?_⟩, fun b o q hn => ?_⟩
  · have q' := of_hideAll [env.locals] (show (hideAll s₁.heap [env.locals]).get? b = some o from q)
    refine c b o (fun hm => ?_) q'
    rw [F.frs_eq] at hm
    rcases List.mem_cons.mp hm with r | hm
    · have := hideAll_none [env.locals] (h := s₁.heap) (b := b) (by rw [r]; exact .head _)
      rw [show (hideAll s₁.heap [env.locals]).get? b = some o from q] at this; cases this
    · exact hb hm
  · exact (sl.trans x4) b o (of_hideAll [env.locals] q) hn
end
end Mine

end
section
open PySem PySem.W PyProof.Rows PySem.Calls Builtin
set_option Elab.async false
set_option autoImplicit false
set_option linter.unusedVariables false
set_option maxRecDepth 100000
namespace Mine
def wordsS (n r : Nat) : Str := Str.ofString "expected " ++ Str.ofString (toString (n : Int)) ++ Str.ofString " bytes in a bytes1, but only " ++ Str.ofString (toString (r : Int)) ++ Str.ofString " remain"
def wordsE : Str := Str.ofString "not enough data in stream to read uint1"
section
variable {prog : Program} {w : World} {A : Around} {E : Value → Shared → Prop} {s : Shared} {Q : Value → Shared → Prop} {h₀ : Heap} {L a : Addr} {m : Str → Option Value} {news : List (Addr × Obj)} {tn : Nat}
theorem fmt2' {n r : Int} {t u v : Tok} (hn0 : 0 ≤ n) (hn1 : n < 10 ^ 10) (hr0 : 0 ≤ r) (hr1 : r < 10 ^ 10) (N : News h₀ L s.heap news) (hb : (a, ({ cls := .type "tuple", data := .seq #[.int n u, .int r v] tn } : Obj)) ∈ news)
   (h : ∀ t' k, Q (.str (Str.ofString "expected " ++ Str.ofString (toString n) ++ Str.ofString " bytes in a bytes1, but only " ++ Str.ofString (toString r) ++ Str.ofString " remain") t') { s with toks := k }) :
    wpAny (model prog w) A (binaryOp .Mod (.str "expected %d bytes in a bytes1, but only %d remain" t) (.ref a)) Q E s := by
  refine' KPt.mod_tuple N hb ?kptF ?kptm ?_
  case kptF => kpt_eq
  case kptm => kpt_run
  intro t' k
  exact h t' k
theorem fmt2 {n r : Nat} {t u v : Tok} (hn1 : (n : Int) < 10 ^ 10) (hr1 : (r : Int) < 10 ^ 10) (hL : a ≠ L) (hb : s.heap.get? a = some { cls := .type "tuple", data := .seq #[.int (n : Int) u, .int (r : Int) v] tn })
   (h : ∀ t' k, Q (.str (wordsS n r) t') { s with toks := k }) :
    wpAny (model prog w) A (binaryOp .Mod (.str "expected %d bytes in a bytes1, but only %d remain" t) (.ref a)) Q E s := by
  have N : News (hideAll s.heap [a]) L s.heap [(a, { cls := .type "tuple", data := .seq #[.int (n : Int) u, .int (r : Int) v] tn })] := fun p hp => by
    rcases List.mem_singleton.mp hp with rfl
    exact ⟨hb, hL, hideAll_none _ (.head _)⟩
  exact fmt2' (by omega) hn1 (by omega) hr1 N (.head _) h
def words1 (r : Nat) : Str := Str.ofString "expected 4 bytes in a bytes1, but only " ++ Str.ofString (toString (r : Int)) ++ Str.ofString " remain"
theorem fmt1 {r : Nat} {t v : Tok} (hr1 : (r : Int) < 10 ^ 10) (h : ∀ t' k, Q (.str (words1 r) t') { s with toks := k }) :
    wpAny (model prog w) A (binaryOp .Mod (.str "expected 4 bytes in a bytes1, but only %d remain" t) (.int (r : Int) v)) Q E s := by
  have hr0 : (0 : Int) ≤ r := by omega
  refine' KPc.mod_int ?kpcF hr0 hr1 ?kpcm ?_
  case kpcF => kpc_eq
  case kpcm => kpc_run
  intro t' k
  exact h t' k
theorem words_eq (r : Nat) : wordsS 4 r = words1 r := by
  unfold wordsS words1
  congr 2
end
section
variable {prog : Program} {w : World} {A : Around}
theorem bind_read2 {qual : Str} {ann : Option Addr} {pm cd doc : Value} {s : Shared} {tr : Addr} {a b tv : Value} (hT : Tup1 s.heap tr tv) :
    wpAny (model prog w) A (bindArgs (fdM 15 20 qual (.ref tr) .none ann pm cd doc) ⟨[a, b], []⟩) (fun bs s' => bs = ([("self", a), ("size", b)] : List (Str × Value)) ∧ s' = s) (fun _ _ => False) s := by
  obtain ⟨cl, od, n, sl, e⟩ := hT
  obtain ⟨h, g, d, t, os⟩ := s
  unfold bindArgs
  repeat lk
  exact ⟨rfl, rfl⟩
theorem bind_read1 {qual : Str} {ann : Option Addr} {pm cd doc : Value} {s : Shared} {tr : Addr} {a tv : Value} (hT : Tup1 s.heap tr tv) :
    wpAny (model prog w) A (bindArgs (fdM 15 20 qual (.ref tr) .none ann pm cd doc) ⟨[a], []⟩) (fun bs s' => bs = ([("self", a), ("size", tv)] : List (Str × Value)) ∧ s' = s) (fun _ _ => False) s := by
  obtain ⟨cl, od, n, sl, e⟩ := hT
  obtain ⟨h, g, d, t, os⟩ := s
  unfold bindArgs
  repeat lk
  exact ⟨rfl, rfl⟩
end
end Mine

end
section
open PySem PySem.W PyProof.Rows PySem.Calls Builtin
set_option Elab.async false
set_option autoImplicit false
set_option linter.unusedVariables false
set_option maxRecDepth 100000
namespace Mine
structure Nm6 (mg mb : Str → Option Value) (f6 f7 : Addr) : Prop where
  exc : mg "ValueError" = none ∧ mb "ValueError" = some (.type "ValueError")
  uint : mg "read_uint1" = some (.ref f6)
  bytes1 : mg "read_bytes1" = some (.ref f7)
  str : mg "str" = none ∧ mb "str" = some (.type "str")
theorem cutB_get {b : Array UInt8} {p : Nat} (hp : p < b.size) : cutB b p (p + 1) = [b.toList.getD p 0].toArray := by
  unfold cutB
  rw [Nat.add_sub_cancel_left]
  have : p < b.toList.length := by simpa using hp
  rw [List.drop_eq_getElem_cons this, List.take_succ_cons, List.take_zero]
  simp [hp]
theorem Tup1.keeps {h h' : Heap} {t : Addr} {v : Value} (x : Tup1 h t v) (k : h.StaysIn h') : Tup1 h' t v := by
  obtain ⟨cl, od, n, sl, e⟩ := x
  exact ⟨cl, od, n, sl, k _ _ e⟩
section
variable {prog : Program} {w : World} {h00 : Heap} {mg mb : Str → Option Value} {A : Around} {B : Led} {s : Shared} {K : Frag} {x C dx bb fChk fRead fIdx tr f6 f7 : Addr} {tv : Value} {b : Array UInt8} {es : List DictEntry} {n p : Nat}
theorem uint_meets {Q E : Value → Shared → Prop} (T : BR h00 K C fChk fRead fIdx tr tv) (D : IsT h00 f6 6) (N : Nm5 mg mb fIdx) (N6 : Nm6 mg mb f6 f7) (e0 : Env0 h00 mg mb) (G : Gl h00 A s.heap) (hb : Has s.heap B) (Rm : Room A 3 11) (hZ : Own h00 A B s.heap [(dx, dictOf es n)]) (S : Strm s.heap x C dx bb b) (he : Ent es bb p)
    (hp : p ≤ b.size) (hsz : b.size ≤ 16777216)
    (hQ : p < b.size → ∀ s' B' es' n' t', Stp A B (hid s [dx]) B' s' → s'.heap.get? dx = some (dictOf es' n') → Ent es' bb (p + 1) → Q (.int ((b.toList.getD p 0).toNat : Nat) t') s')
    (hE : p = b.size → ∀ s₁ s' B' es' n' e u, Stp A B (hid s [dx]) B' s₁ → s₁.heap.get? dx = some (dictOf es' n') → Ent es' bb p → Gl h00 A s₁.heap → Flew A s₁ s' e "ValueError" [.str wordsE u] → E (.ref e) s') :
    wpAny (model prog w) A (call (.ref f6) [.ref x]) Q E s := by
  obtain ⟨ann, pm, cd, doc, D⟩ := D
  refine wpAny_call (call_code (mg := mg) (mb := mb) (binds := [("f", .ref x)]) [(dx, dictOf es n)] e0 G hb hZ D (by have := Rm.dp; omega) (by with_unfolding_all rfl) ?_ fun s₁ L hL F => ?_)
  · intro x hx
    rcases List.mem_singleton.mp hx with rfl
    exact .inl (by rfl)
  have h1 : (bindL (callEnvC (fdT 6 ann pm cd doc) L f6).kindOf [("f", .ref x)] fun _ => none) "f" = some (.ref x) := by rfl
  generalize (bindL (callEnvC (fdT 6 ann pm cd doc) L f6).kindOf [("f", .ref x)] fun _ => none) = m at F h1
  have R' : Room (A.deeper (callEnvC (fdT 6 ann pm cd doc) L f6)) 2 8 := (Rm.mono (by omega) (by omega) : Room A 3 11).deeper _
  have St : ∀ {s' : Shared} {B' : Led}, Stp A B (hid s [dx]) B' s' → Strm s'.heap x C dx bb b := fun y => S.hid.kp y.kp
  refine wpAny_execs_cons (wpAny_Assign_Name (MethodCall_ (F.rd.name_l h1 ?_)))
  obtain ⟨ox, _, I⟩ := (St F.stp).ins.inst (F.pin _ (.head _)).1
  refine method_fn (T.X.keeps F.rd.gl.stay) I (plainGet_of T.read.pg).1 (plainGet_of T.read.pg).2 T.read.fi T.read.ty (by obtain ⟨h₁, h₂, k₁, k₂, t, rfl⟩ := he; rfl) ?_
  obtain ⟨qR, annR, pmR, cdR, docR, DR⟩ := id T.dR
  refine callWith_of (P := h00.StaysIn) rfl (Callee.def DR) (evalArgs_plain (spliced_cons ?_))
  refine wpAny_Constant_int (k := 0) (pos := ⟨0, 0, 0, 0⟩) ?_
  refine spliced_nil ⟨F.rd.gl.stay, ?_⟩
  have F₁ := F.lt (s₁.toks + 1)
  refine wpAny_call (read_meets (z := 1) (vals := [.ref x, .int 1 s₁.toks]) T N e0 F₁.rd.gl F₁.rd.has R' (F₁.own fun _ h => h) (St F₁.stp) he hp hsz (by omega) (by omega) (fun qual ann pm cd doc => bind_read2 (T.dT.keeps F₁.rd.gl.stay)) fun s₂ B' es' n' t' y hd₂ he₂ => ?_)
  have F₂ := F₁.back (by simp) y hd₂ (fun xs n q => by cases q)
  refine F₂.st fun s₃ F₃ => ?_
  dsimp only
  refine wpAny_execs_cons (wpAny_If (wpAny_isTrue_value (F₃.rd.name_l upd_same ?_)))
  refine truthy_bytes ?_ ?_
  · simp only [cutB, List.size_toArray, List.length_take, List.length_drop, Array.length_toList]; omega
  have F₄ := F₃.lt (s₃.toks + 1 + 1)
  rcases Nat.lt_or_ge p b.size with hlt | hge
  · have e1 : endR b.size p 1 = p + 1 := by unfold endR; rw [if_pos (by decide)]; show min (p + 1) _ = _; omega
    rw [e1] at he₂ F₄ ⊢
    rw [cutB_get hlt] at F₄ ⊢
    rw [if_pos (by simp)]
    refine wpAny_execs_cons (wpAny_Return_some ?_)
    refine Subscript_Constant ?_
    refine F₄.rd.name_l upd_same ?_
    refine wpAny_Constant_int ?_
    refine ⟨"bytes", _, FB.slot_bytes_getitem.lookup, typeIs_bytes _ _ _, getItem_bytes (l := [b.toList.getD p 0]) (by simp only [List.length_singleton]; omega) (by omega) (by simp only [List.length_singleton]; omega) ?_⟩
    have F₅ := F₄.lt (s₃.toks + 1 + 1 + 1 + 1)
    exact hQ hlt _ _ _ _ _ F₅.stp (F₅.pin _ (.head _)).1 he₂
  · have e1 : endR b.size p 1 = p := by unfold endR; rw [if_pos (by decide)]; omega
    have e2 : cutB b p p = #[] := by simp [cutB]
    rw [e1] at he₂ F₄ ⊢
    rw [e2] at F₄ ⊢
    rw [if_neg (by simp)]
    refine wpAny_execs_nil ?_
    dsimp only
    refine wpAny_execs_cons (wpAny_Raise_call PySem.F.excCall_ValueError PySem.F.excRaise_ValueError R'.hh (by rfl) (F₄.rd.name_b N6.exc.1 N6.exc.2 ⟨rfl, evalArgs_plain (spliced_cons ?_)⟩))
    refine wpAny_Constant_str (k := 0) (pos := ⟨0, 0, 0, 0⟩) ?_
    refine spliced_nil ⟨rfl, (by decide : 1 ≤ sizeLine), fun h' e hx => ?_⟩
    have F₅ := F₄.lt (s₃.toks + 1 + 1 + 1)
    refine fly_first (s₁ := { s₃ with toks := s₃.toks + 1 + 1 + 1 }) (tk := s₃.toks + 1 + 1 + 1) F₅ hx fun s' f => ?_
    obtain ⟨l1, l2, l3⟩ := F₅.less
    exact hE (by omega) _ _ _ _ _ _ _ l1 (l2 _ (.head _)) he₂ l3 f
end
end Mine

end
section
open PySem PySem.W PyProof.Rows PySem.Calls Builtin
set_option Elab.async false
set_option autoImplicit false
set_option linter.unusedVariables false
set_option maxRecDepth 100000
namespace Mine
def cnt (b : Array UInt8) (p : Nat) : Nat := (b.toList.getD p 0).toNat
theorem cnt_lt (b : Array UInt8) (p : Nat) : cnt b p < 256 := UInt8.toNat_lt _
section
variable {prog : Program} {w : World} {h00 : Heap} {mg mb : Str → Option Value} {A : Around} {B : Led} {s : Shared} {K : Frag} {x C dx bb fChk fRead fIdx tr f6 f7 : Addr} {tv : Value} {b : Array UInt8} {es : List DictEntry} {n p : Nat}
theorem bytes1_meets {Q E : Value → Shared → Prop} (T : BR h00 K C fChk fRead fIdx tr tv) (D6 : IsT h00 f6 6) (D : IsT h00 f7 7) (N : Nm5 mg mb fIdx) (N6 : Nm6 mg mb f6 f7) (e0 : Env0 h00 mg mb) (G : Gl h00 A s.heap) (hb : Has s.heap B) (Rm : Room A 4 14) (hZ : Own h00 A B s.heap [(dx, dictOf es n)]) (S : Strm s.heap x C dx bb b) (he : Ent es bb p)
    (hp : p ≤ b.size) (hsz : b.size ≤ 16777216)
    (hQ : p < b.size → p + 1 + cnt b p ≤ b.size → ∀ s' B' es' n' t', Stp A B (hid s [dx]) B' s' → s'.heap.get? dx = some (dictOf es' n') → Ent es' bb (p + 1 + cnt b p) → Q (.bytes (cutB b (p + 1) (p + 1 + cnt b p)) t') s')
    (hE : ∀ s₁ s' B' es' n' p' e u wd, Stp A B (hid s [dx]) B' s₁ → s₁.heap.get? dx = some (dictOf es' n') → Ent es' bb p' → Gl h00 A s₁.heap → Flew A s₁ s' e "ValueError" [.str wd u] →
      (p = b.size ∧ p' = p ∧ wd = wordsE) ∨ (p < b.size ∧ b.size < p + 1 + cnt b p ∧ p' = b.size ∧ wd = wordsS (cnt b p) (b.size - (p + 1))) → E (.ref e) s') :
    wpAny (model prog w) A (call (.ref f7) [.ref x]) Q E s := by
  obtain ⟨ann, pm, cd, doc, D⟩ := D
  refine wpAny_call (call_code (mg := mg) (mb := mb) (binds := [("f", .ref x)]) [(dx, dictOf es n)] e0 G hb hZ D (by have := Rm.dp; omega) (by with_unfolding_all rfl) ?_ fun s₁ L hL F => ?_)
  · intro x hx
    rcases List.mem_singleton.mp hx with rfl
    exact .inl (by rfl)
  have h1 : (bindL (callEnvC (fdT 7 ann pm cd doc) L f7).kindOf [("f", .ref x)] fun _ => none) "f" = some (.ref x) := by rfl
  generalize (bindL (callEnvC (fdT 7 ann pm cd doc) L f7).kindOf [("f", .ref x)] fun _ => none) = m at F h1
  have R' : Room (A.deeper (callEnvC (fdT 7 ann pm cd doc) L f7)) 3 11 := (Rm.mono (by omega) (by omega) : Room A 4 14).deeper _
  have St : ∀ {s' : Shared} {B' : Led}, Stp A B (hid s [dx]) B' s' → Strm s'.heap x C dx bb b := fun y => S.hid.kp y.kp
  have hc := cnt_lt b p
  obtain ⟨ann6, pm6, cd6, doc6, DD6⟩ := id D6
  refine wpAny_execs_cons (wpAny_Assign_Name (callF1 (h00 := h00) (.def DD6) (fun Q' hq => F.rd.name_g N6.uint hq) (F.rd.name_l h1 ⟨F.rd.gl.stay, ?_⟩)))
  refine uint_meets T D6 N N6 e0 F.rd.gl F.rd.has R' (F.own fun _ h => h) (St F.stp) he hp hsz (fun hlt s₂ B₂ es₂ n₂ t₂ y hd₂ he₂ => ?_) fun hpe s₂ s' B₂ es₂ n₂ e u y hd₂ he₂ G₂ f => ?_
  rotate_left
  · have F₂ := F.back (by simp) y hd₂ (fun xs n q => by cases q)
    refine fly_on F₂ f fun s'' f' => ?_
    obtain ⟨l1, l2, l3⟩ := F₂.less
    exact hE _ _ _ _ _ _ _ _ _ l1 (l2 _ (.head _)) he₂ l3 f' (.inl ⟨hpe, rfl, rfl⟩)
  have F₂ := F.back (by simp) y hd₂ (fun xs n q => by cases q)
  refine F₂.st (v := .int ((cnt b p : Nat) : Int) t₂) fun s₃ F₃ => ?_
  dsimp only
  refine wpAny_execs_cons (wpAny_Assert_holds (wpAny_isTrue_Compare1 ?_))
  refine F₃.rd.name_l upd_same (wpAny_Constant_int (ge_int (wpAny_truthy_bool ⟨decide_eq_true (by show (0 : Int) ≤ _; omega), ?_⟩)))
  have F₄ := F₃.lt (s₃.toks + 1)
  dsimp only
  refine wpAny_execs_cons (wpAny_Assign_Name (MethodCall_ (F₄.rd.name_l (upd_get h1) ?_)))
  obtain ⟨ox, _, I⟩ := (St F₄.stp).ins.inst (F₄.pin _ (.head _)).1
  refine method_fn (T.X.keeps F₄.rd.gl.stay) I (plainGet_of T.read.pg).1 (plainGet_of T.read.pg).2 T.read.fi T.read.ty (by obtain ⟨h₁, h₂, k₁, k₂, t, rfl⟩ := he₂; rfl) ?_
  obtain ⟨qR, annR, pmR, cdR, docR, DR⟩ := id T.dR
  refine callWith_of (P := h00.StaysIn) rfl (Callee.def DR) (evalArgs_plain (spliced_cons ?_))
  refine F₄.rd.name_l upd_same ?_
  refine spliced_nil ⟨F₄.rd.gl.stay, ?_⟩
  refine wpAny_call (read_meets (z := (cnt b p : Nat)) (vals := [.ref x, .int (cnt b p : Nat) t₂]) T N e0 F₄.rd.gl F₄.rd.has (R'.mono (by omega) (by omega)) (F₄.own fun _ h => h) (St F₄.stp) he₂ hlt hsz (by omega) (by omega) (fun qual ann pm cd doc => bind_read2 (T.dT.keeps F₄.rd.gl.stay)) fun s₅ B₅ es₅ n₅ t₅ y₅ hd₅ he₅ => ?_)
  have F₅ := F₄.back (by simp) y₅ hd₅ (fun xs n q => by cases q)
  refine F₅.st fun s₆ F₆ => ?_
  dsimp only
  have he' : endR b.size (p + 1) (cnt b p : Nat) = min (p + 1 + cnt b p) b.size := by unfold endR; rw [if_pos (by omega), Int.toNat_natCast]
  have hcs : (cutB b (p + 1) (endR b.size (p + 1) (cnt b p : Nat))).size = min (cnt b p) (b.size - (p + 1)) := by
    rw [cutB_size (by rw [he']; omega) (by rw [he']; omega), he']; omega
  refine wpAny_execs_cons (wpAny_If (wpAny_isTrue_Compare1 ?_))
  refine callB1 (fun Q' hq => F₆.rd.name_b N.len.1 N.len.2 hq) (F₆.rd.name_l upd_same (len_bytes (by rw [hcs]; omega) ?_))
  have F₇ := F₆.lt (s₆.toks + 1 + 1)
  refine F₇.rd.name_l (upd_get upd_same) (eq_int (wpAny_truthy_bool ?_))
  rw [hcs]
  by_cases hen : p + 1 + cnt b p ≤ b.size
  · have e1 : endR b.size (p + 1) (cnt b p : Nat) = p + 1 + cnt b p := by rw [he']; omega
    have e2 : (((min (cnt b p) (b.size - (p + 1)) : Nat) : Int) == ((cnt b p : Nat) : Int)) = true := by rw [beq_iff_eq]; omega
    rw [e2, if_pos rfl]
    refine wpAny_execs_cons (wpAny_Return_some (F₇.rd.name_l upd_same ?_))
    rw [e1] at he₅ ⊢
    exact hQ hlt hen _ _ _ _ _ F₇.stp (F₇.pin _ (.head _)).1 he₅
  · have e1 : endR b.size (p + 1) (cnt b p : Nat) = b.size := by rw [he']; omega
    have e2 : (((min (cnt b p) (b.size - (p + 1)) : Nat) : Int) == ((cnt b p : Nat) : Int)) = false := by rw [beq_eq_false_iff_ne]; omega
    rw [e2, if_neg (by decide)]
    refine wpAny_execs_nil ?_
    dsimp only
    refine wpAny_execs_cons (wpAny_Raise_call PySem.F.excCall_ValueError PySem.F.excRaise_ValueError R'.hh (by rfl) (F₇.rd.name_b N6.exc.1 N6.exc.2 ⟨rfl, evalArgs_plain (spliced_cons ?_)⟩))
    have e3 : min (cnt b p) (b.size - (p + 1)) = b.size - (p + 1) := by omega
    rw [e1] at F₇ he₅
    have e4 : (cutB b (p + 1) b.size).size = b.size - (p + 1) := by rw [e1] at hcs; rw [hcs]; omega
    have F₈ := F₇.lt (s₆.toks + 1 + 1 + 1)
    refine wpAny_BinOp (wpAny_Constant_str ?_)
    refine wpAny_Tuple (spliced_cons (F₈.rd.name_l (upd_get upd_same) (spliced_cons ?_)))
    refine callB1 (fun Q' hq => F₈.rd.name_b N.len.1 N.len.2 hq) (F₈.rd.name_l upd_same (len_bytes (by rw [e4]; omega) ?_))
    refine spliced_nil ⟨(by decide : 2 ≤ sizeLine), ?_⟩
    have F₉ := F₈.lt (s₆.toks + 1 + 1 + 1 + 1 + 1)
    have F₁₀ := F₉.push (o := { cls := .type "tuple", data := .seq #[.int ((cnt b p : Nat) : Int) t₂, .int ((cutB b (p + 1) b.size).size : Nat) (s₆.toks + 1 + 1 + 1 + 1)] }) rfl
    have F₁₁ := F₁₀.sub (Z' := [(dx, dictOf es₅ n₅)]) (by simp)
    refine fmt2 (L := s₆.heap.objs.size + 1) (by omega) (by rw [e4]; omega) (Nat.ne_of_lt (Nat.lt_succ_self _)) (Heap.get?_push_size _ rfl) fun t' k => ?_
    refine spliced_nil ⟨rfl, (by decide : 1 ≤ sizeLine), fun h' e hx => ?_⟩
    have F₁₂ := F₁₁.lt k
    refine fly_first F₁₂ hx fun s' f => ?_
    obtain ⟨l1, l2, l3⟩ := F₁₂.less
    exact hE _ _ _ _ _ _ _ _ _ l1 (l2 _ (.head _)) he₅ l3 f (.inr ⟨hlt, by omega, rfl, by rw [e4]⟩)
end
end Mine

end
section
open PySem PySem.W PyProof.Rows PySem.Calls
set_option Elab.async false
set_option autoImplicit false
set_option linter.unusedVariables false
set_option maxRecDepth 100000
namespace Mine
theorem by_len : typeLookup (.type "bytes") "__len__" = pure (some (.builtin "bytes.__len__")) := by rw [typeLookup_type, builtinLookup_eq_fast]; kernel_rfl
def OctAt (b : Array UInt8) (i : Nat) (v : Value) : Prop := ∃ c u, b[i]? = some c ∧ v = .int (c.toNat : Int) u
section
variable {prog : Program} {w : World} {A : Around} {E : Value → Shared → Prop} {s : Shared}
theorem extend_bytes {R : Result → Shared → Prop} (hh : A.handled = none) (x : Array UInt8) (t : Tok) (S : Addr) (res : Value) (c₀ : Nat) (hS : s.heap.get? S = some { cls := .type "list", data := .seq #[] c₀ })
    (hR : ∀ h' tk acc' c', (∀ b o, b ≠ S → s.heap.get? b = some o → h'.get? b = some o) → h'.get? S = some { cls := .type "list", dict := none, data := .seq acc' c', slots := #[] } →
      ItemsOf (OctAt x) acc' x.size → R (.ok (.ret res)) { s with heap := h', toks := tk }) (hn : x.size ≤ sizeLine) :
    wpAny (model prog w) A.in1 (Builtin.List.listExtendWith (.ref S) (.bytes x t) res)
      (fun fin s' => match fin with | .done f => R (.ok f) s' | .again c' => c'.quiet = true ∧ codeAny (model prog w) A c' R s') (fun e s' => R (.error e) s') s := by
  have hSI : S ≠ s.heap.objs.size := Nat.ne_of_lt (Heap.lt_size hS)
  have hSf : S ∉ [s.heap.objs.size] := fun hm => hSI (List.mem_singleton.mp hm)
  unfold Builtin.List.listExtendWith
  refine wpAny_bind (wpAny_typeOf (T := "bytes") (v := .bytes x t) rfl ?_)
  have h1 : Builtin.List.listSameRef (.ref S) (.bytes x t) = false := rfl
  have h2 : (Value.type "bytes" == Value.type "list") = false := by decide
  have h3 : (Value.type "bytes" == Value.type "tuple") = false := by decide
  simp only [h1, h2, h3, Bool.or_false, Bool.false_eq_true, if_false]
  refine wpAny_bind (KBw.pyIter_bytes ?_)
  refine wpAny_bind (wpAny_holding ?_)
  unfold Builtin.List.listLengthHint
  refine wpAny_bind (wpAny_specialOf (T := "bytes") (v := .bytes x t) rfl by_len ?_)
  wp_delta
  refine wpAny_bind (wpAny_isInstance (T := "bytes") (v := .bytes x t) (b := true) rfl (by rw [isSubtype_type]; kernel_rfl) ?_)
  show wpAny _ _ (typeOf (Value.bytes x t) >>= _) _ _ _
  refine wpAny_bind (wpAny_typeOf (T := "bytes") (v := .bytes x t) rfl ?_)
  refine wpAny_pure ?_
  rw [if_neg (by decide)]
  have W := (KBw.walks (prog := prog) (w := w) (A := A.in1) hh s.heap.objs.size x t).toS
  refine wpAny_pure ⟨plainId_quiet F.plain_extend_loop _, codeAny_extend_loopS W hn S hSf _ x.size 0 _ _ _ rfl (Nat.zero_le _) ⟨_, Heap.get?_push_size _ rfl, rfl, rfl⟩ (Heap.get?_push_of_some _ hS) (ItemsOf.nil _) fun s' acc' c' hm hS' hacc => ?_⟩
  rw [Moved.eq_with hm]
  refine hR s'.heap s'.toks acc' c' (fun b ob hb e => hm.heap b ob (fun hmem => ?_) (Heap.get?_push_of_some _ e)) hS' hacc
  rcases List.mem_cons.mp hmem with e' | hmem
  · exact hb e'
  · exact absurd (Heap.lt_size e) (by rw [List.mem_singleton.mp hmem]; exact Nat.lt_irrefl _)

theorem list_bytes_ {Q : Value → Shared → Prop} (hh : A.handled = none) (x : Array UInt8) (t : Tok)
    (hQ : ∀ h' tk acc' c', (∀ b o, s.heap.get? b = some o → h'.get? b = some o) →
      h'.get? s.heap.objs.size = some { cls := .type "list", dict := none, data := .seq acc' c', slots := #[] } → ItemsOf (OctAt x) acc' x.size → Q (.ref s.heap.objs.size) { s with heap := h', toks := tk }) (hn : x.size ≤ sizeLine) :
    wpAny (model prog w) A (call (.type "list") [.bytes x t]) Q E s := by
  refine callType_codes (Q₁ := fun obj s₁ => obj = .ref s.heap.objs.size ∧ s₁ = { s with heap := s.heap.push { cls := .type "list", data := .seq #[] } }) PySem.F.called_list (PySem.F.typeCall_list_1 _) PySem.F.entry_list_init
    (code_list_new _ ⟨rfl, rfl⟩) fun obj s₁ h₁ => ?_
  obtain ⟨rfl, rfl⟩ := h₁
  have hS : (s.heap.push { cls := .type "list", data := .seq #[] }).get? s.heap.objs.size = some { cls := .type "list", data := .seq #[] } := Heap.get?_push_size _ rfl
  refine ⟨⟨_, hS, rfl⟩, PySem.F.args_list_init_2 _ _, ?_⟩
  generalize hD : s.heap.objs.size = S at hS hQ
  show wpAny _ A.in1.in1 (do let old ← Builtin.List.listItems (.ref S); Builtin.List.listUpdate (.ref S) (fun _ => #[]); letGo old.toList.reverse; Builtin.List.listExtendWith (.ref S) (.bytes x t) .none) _ _ _
  refine wpAny_bind ?_
  unfold Builtin.List.listItems
  refine wpAny_bind (wpAny_seqItems hS rfl (wpAny_pure ?_))
  show wpAny _ _ (updateSeq S (fun _ => #[]) >>= fun _ => letGo (#[] : Array Value).toList.reverse >>= fun _ => Builtin.List.listExtendWith (.ref S) (.bytes x t) .none) _ _ _
  refine wpAny_bind (wpAny_updateSeq hS rfl ?_)
  have hS₂ := Heap.get?_update_self (Obj.mapSeq (fun _ => (#[] : Array Value))) hS rfl
  refine wpAny_bind (wpAny_letGo ?_)
  refine extend_bytes (A := A.in1) hh x t S .none _ hS₂ (fun h' tk acc' c' hk hS' hacc => ⟨rfl, ?_⟩) hn
  refine (hQ h' tk acc' c' (fun b o e => hk b o ?_ ((Heap.get?_update_other _ _ ?_).trans (Heap.get?_push_of_some _ e))) hS' hacc : _)
  · rw [← hD]; exact Nat.ne_of_lt (Heap.lt_size e)
  · rw [← hD]; exact Nat.ne_of_gt (Heap.lt_size e)
end
end Mine

end
section
open PySem PySem.W PyProof.Rows PySem.Calls
set_option Elab.async false
set_option autoImplicit false
set_option linter.unusedVariables false
set_option maxRecDepth 100000
namespace Mine
section
variable {h00 : Heap} {mg mb : Str → Option Value} {A₀ : Around} {B₀ : Led} {s₀ : Shared} {env : Env} {m cm : Str → Option Value} {Z : List (Addr × Obj)} {B B' : Led} {s s' : Shared} {M : Model} {A : Around} {E : Value → Shared → Prop} {Q : Unit → Shared → Prop} {x : Str} {v : Value}
/-- as Fm.st, all else named -/
theorem Fm.st' (F : Fm h00 mg mb A₀ B₀ s₀ env m cm Z B s) (h : ∀ h', Fm h00 mg mb A₀ B₀ s₀ env (upd m x v) cm Z B { s with heap := h', toks := s.toks + 1 } → Heap.SameBut env.locals s.heap h' → Q () { s with heap := h', toks := s.toks + 1 }) (hk : env.scope.kind = .function := by rfl) (hl : env.kindOf x = some .local := by rfl) :
    wpAny M A (storeName env x v) Q E s := by
  refine wpAny_storeName_local hl F.rd.ns (fun h' hn hs => h h' ?_ hs) (by rw [hk]; rfl)
  refine F.but hs.extBut F.newL (fun q hq => F.offNs hq F.rd.ns) hn (fun n c hc => (F.rd.cell n c hc).sameBut hs ((F.newC n c hc).2)) (F.new00 F.newL) fun p hp => (F.pin p hp).2.1
/-- the name of a caught exception goes -/
theorem Fm.unname {pos : Pos} (F : Fm h00 mg mb A₀ B₀ s₀ env m cm Z B s) (h : ∀ m' s', Fm h00 mg mb A₀ B₀ s₀ env m' cm Z B s' → Q () s') (hk : env.scope.kind = .function := by rfl) (hl : env.kindOf x = some .local := by rfl) :
    wpAny M A (do bindName env x .none; unbindBehindTheSuite env x pos) Q E s := by
  refine wpAny_nameGoes hl F.rd.ns (by rw [hk]; rfl) fun h' m' hn hs => h m' _ ?_
  exact F.but hs.extBut F.newL (fun q hq => F.offNs hq F.rd.ns) hn (fun n c hc => (F.rd.cell n c hc).sameBut hs ((F.newC n c hc).2)) (F.new00 F.newL) fun p hp => (F.pin p hp).2.1
end
theorem all2_octs {B : Led} {b : Array UInt8} {acc : Array Value} {n : Nat} (h : ItemsOf (OctAt b) acc n) (hn : n = b.size) : All2 (kInt.rel B) acc.toList (KBw.bInts b) := by
  obtain ⟨h1, h2⟩ := h
  have key : ∀ (vs : List Value) (cs : List UInt8), vs.length = cs.length → (∀ (j : Nat) (v : Value), vs[j]? = some v → ∃ (c : UInt8) (u : Tok), cs[j]? = some c ∧ v = Value.int (c.toNat : Int) u) → All2 (kInt.rel B) vs (cs.map fun c => (c.toNat : Int)) := by
    intro vs
    induction vs with
    | nil => intro cs hl _; cases cs with
      | nil => exact .nil
      | cons c cs => cases hl
    | cons v vs ih => intro cs hl hp; cases cs with
      | nil => cases hl
      | cons c cs =>
        obtain ⟨c', u, e, rfl⟩ := hp 0 v rfl
        cases e
        exact .cons ⟨u, rfl⟩ (ih cs (Nat.succ.inj hl) fun j v hj => hp (j + 1) v hj)
  refine key _ _ (by simp [h1, hn]) fun j v hj => ?_
  obtain ⟨c, u, e, q⟩ := h2 j v (by simpa using hj)
  exact ⟨c, u, by simpa using e, q⟩
section
variable {prog : Program} {w : World} {h00 : Heap} {mg mb : Str → Option Value} {A : Around} {B : Led} {s : Shared} {K : Frag} {x C dx bb fChk fRead fIdx tr f6 f7 f20 : Addr} {tv : Value} {b : Array UInt8} {es : List DictEntry} {n p : Nat}
theorem told_meets {Q E : Value → Shared → Prop} (T : BR h00 K C fChk fRead fIdx tr tv) (D6 : IsT h00 f6 6) (D7 : IsT h00 f7 7) (D : IsT h00 f20 20) (N : Nm5 mg mb fIdx) (N6 : Nm6 mg mb f6 f7) (N2 : Nm2 mg mb) (e0 : Env0 h00 mg mb) (G : Gl h00 A s.heap) (hb : Has s.heap B) (Rm : Room A 5 17) (hZ : Own h00 A B s.heap [(dx, dictOf es n)]) (S : Strm s.heap x C dx bb b) (he : Ent es bb p)
    (hp : p ≤ b.size) (hsz : b.size ≤ 16777216)
    (hQ : p < b.size → p + 1 + cnt b p ≤ b.size → ∀ s' B' es' n' v, Stp A B (hid s [dx]) B' s' → s'.heap.get? dx = some (dictOf es' n') → Ent es' bb (p + 1 + cnt b p) → kInt.list.rel B' v (KBw.bInts (cutB b (p + 1) (p + 1 + cnt b p))) → Q v s')
    (hE : ∀ s' B' es' n' p' u wd, Stp A B (hid s [dx]) B' s' → s'.heap.get? dx = some (dictOf es' n') → Ent es' bb p' →
      (p = b.size ∧ p' = p ∧ wd = wordsE) ∨ (p < b.size ∧ b.size < p + 1 + cnt b p ∧ p' = b.size ∧ wd = wordsS (cnt b p) (b.size - (p + 1))) → Q (.str wd u) s') :
    wpAny (model prog w) A (call (.ref f20) [.ref x]) Q E s := by
  obtain ⟨ann, pm, cd, doc, D⟩ := D
  refine wpAny_call (call_code (mg := mg) (mb := mb) (binds := [("stream", .ref x)]) [(dx, dictOf es n)] e0 G hb hZ D (by have := Rm.dp; omega) (by with_unfolding_all rfl) ?_ fun s₁ L hL F => ?_)
  · intro x hx
    rcases List.mem_singleton.mp hx with rfl
    exact .inl (by rfl)
  have h1 : (bindL (callEnvC (fdT 20 ann pm cd doc) L f20).kindOf [("stream", .ref x)] fun _ => none) "stream" = some (.ref x) := by rfl
  generalize (bindL (callEnvC (fdT 20 ann pm cd doc) L f20).kindOf [("stream", .ref x)] fun _ => none) = m at F h1
  have R' : Room (A.deeper (callEnvC (fdT 20 ann pm cd doc) L f20)) 4 14 := (Rm.mono (by omega) (by omega) : Room A 5 17).deeper _
  have St : ∀ {s' : Shared} {B' : Led}, Stp A B (hid s [dx]) B' s' → Strm s'.heap x C dx bb b := fun y => S.hid.kp y.kp
  have hc := cnt_lt b p
  obtain ⟨ann7, pm7, cd7, doc7, DD7⟩ := id D7
  refine wpAny_execs_cons (wpAny_Try_except ?_)
  refine wpAny_execs_cons (wpAny_Return_some ?_)
  refine callT1 (fun Q' hq => F.rd.name_b N2.list.1 N2.list.2 hq) (callF1 (h00 := h00) (.def DD7) (fun Q' hq => F.rd.name_g N6.bytes1 hq) (F.rd.name_l h1 ⟨F.rd.gl.stay, ?_⟩))
  refine bytes1_meets T D6 D7 N N6 e0 F.rd.gl F.rd.has R' (F.own fun _ h => h) (St F.stp) he hp hsz (fun hlt hle s₂ B₂ es₂ n₂ t₂ y hd₂ he₂ => ?_) fun s₂ s' B₂ es₂ n₂ p' e u wd y hd₂ he₂ G₂ f hcase => ?_
  · have F₂ := F.back (by simp) y hd₂ (fun xs n q => by cases q)
    have hcs : (cutB b (p + 1) (p + 1 + cnt b p)).size = cnt b p := by rw [cutB_size (by omega) hle]; omega
    refine list_bytes_ R'.hh _ _ (fun h' tk acc' c' hk ho hacc => ?_) (by rw [hcs, sizeLine_eq]; omega)
    have hl : Lst h' s₂.heap.objs.size acc'.toList.toArray := .mk (by simpa using ho)
    have F₃ := F₂.go (.alloc F₂.rd.has (tk := tk) hk (fresh_size _) hl)
    exact hQ hlt hle _ _ _ _ _ F₃.stp (F₃.pin _ (.head _)).1 he₂ ⟨_, _, rfl, .head _, all2_octs hacc rfl⟩
  · have F₂ := F.back (by simp) y hd₂ (fun xs n q => by cases q)
    have hfr := frames_of (env := callEnvC (fdT 20 ann pm cd doc) L f20) F₂.stack
    obtain ⟨⟨h₃, tk₃, rfl⟩, ⟨base, t, fl, tup, nt, c⟩, sl⟩ := f
    rw [hfr] at fl
    refine wpAny_looks_onW hfr F₂.frame fl fun h₄ hheld₄ hsm₄ => ?_
    refine wpAny_landsW hheld₄ fun h₅ hheld hsm₅ => ?_
    have F₅ := F₂.go (s' := { s₂ with heap := h₅, toks := tk₃ }) ⟨⟨_, _, rfl⟩, kp_slots F₂.rd.gl hheld.1 c (sl.trans (hsm₄.trans hsm₅)), (kp_slots F₂.rd.gl hheld.1 c (sl.trans (hsm₄.trans hsm₅))).has F₂.rd.has, fun _ h => h, fun _ h => .inl h⟩
    obtain ⟨ob, hob, hobc⟩ := hheld.there
    refine wpAny_handleBy_builtin_as (X := "ValueError") (T := "ValueError") (b := true) PySem.F.isExc_ValueError (by rw [isSubtype_type]; kernel_rfl) PySem.F.self_ValueError ?_
    have ar : ∀ {m' cm' : Str → Option Value} {B' : Led} {h : Heap}, Rd h00 mg mb (A.deeper (callEnvC (fdT 20 ann pm cd doc) L f20)) (callEnvC (fdT 20 ann pm cd doc) L f20) m' cm' B' h → Rd h00 mg mb ((A.deeper (callEnvC (fdT 20 ann pm cd doc) L f20)).mark (some (.ref e))) (callEnvC (fdT 20 ann pm cd doc) L f20) m' cm' B' h := fun R => ⟨R.e0, R.gl.around rfl, R.ns, R.cell, R.has⟩
    refine Rd.name_b (s := { s₂ with heap := h₅, toks := tk₃ }) (ar F₅.rd) N6.exc.1 N6.exc.2 ⟨rfl, ⟨ob, hob, hobc⟩, ?_⟩
    rw [if_pos rfl]
    refine lands_againW hheld fun h₆ hfl₆ hsm₆ => ?_
    have kp₆ := kp_slots F₂.rd.gl hfl₆.1 c (sl.trans (hsm₄.trans (hsm₅.trans hsm₆)))
    have F₆ := F₂.go (s' := { s₂ with heap := h₆, toks := tk₃ }) ⟨⟨_, _, rfl⟩, kp₆, kp₆.has F₂.rd.has, fun _ h => h, fun _ h => .inl h⟩
    obtain ⟨oe, ws, hoe, hoec, hoed, hoe0⟩ := hfl₆.first
    obtain ⟨ot, nt', hot, hotc, hotd⟩ := tup.of_slots (hsm₄.trans (hsm₅.trans hsm₆))
    refine F₆.st' (x := "err") fun h₇ F₇ hs₇ => ?_
    obtain ⟨oL, esL, epL, hoL, hdL, _⟩ := F₆.rd.ns
    have eL : ∀ {a : Addr} {o : Obj}, h₆.get? a = some o → (∀ es ep, o.data ≠ .dict es ep) → a ≠ (callEnvC (fdT 20 ann pm cd doc) L f20).locals := fun h hd q => by
      rw [q, hoL] at h; cases h; exact hd _ _ hdL
    have he₇ := hs₇.extBut _ _ (eL hoe (fun _ _ q => by rw [hoed] at q; cases q)) hoe
    have ht₇ := hs₇.extBut _ _ (eL hot (fun _ _ q => by rw [hotd] at q; cases q)) hot
    refine wpAny_execs_cons (wpAny_Return_some ?_)
    refine callT1 (fun Q' hq => Rd.name_b (s := { s₂ with heap := h₇, toks := tk₃ + 1 }) (ar F₇.rd) N6.str.1 N6.str.2 hq) (Rd.name_l (s := { s₂ with heap := h₇, toks := tk₃ + 1 }) (ar F₇.rd) upd_same ?_)
    refine P.str_of_exc_one PySem.F.excStr_ValueError (by have := R'.un; show A.units + _ + 2 < _; exact Nat.lt_of_le_of_lt (by show A.units + 3 + 2 ≤ _; omega) Rm.un) ⟨_, _, he₇, hoec, hoed, hoe0⟩ ⟨_, _, ht₇, hotc, hotd⟩ ?_
    refine Fm.unname (s := { s₂ with heap := h₇, toks := tk₃ + 1 }) F₇ fun m' s₈ F₈ => ?_
    exact hE _ _ _ _ _ _ _ F₈.stp (F₈.pin _ (.head _)).1 he₂ hcase
end
end Mine

end
section
open PySem PySem.W PyProof.Rows PySem.Calls
set_option Elab.async false
set_option autoImplicit false
set_option linter.unusedVariables false
set_option maxRecDepth 100000
namespace Mine
inductive Lits : List PySem.Expr → List Int → Prop
  | nil : Lits [] []
  | cons {es : List PySem.Expr} {xs : List Int} (x : Int) (ck : Nat) (cp : Pos) : Lits es xs → Lits (.Constant (.int x) ck cp :: es) (x :: xs)
theorem Lits.len {es : List PySem.Expr} {xs : List Int} (h : Lits es xs) : es.length = xs.length := by
  induction h with
  | nil => rfl
  | cons _ _ _ _ ih => simp [ih]
namespace CE
variable {prog : Program} {w : World} {A : Around} {env : Env} {h00 : Heap} {mg mb : Str → Option Value} {m cm : Str → Option Value} {B B' : Led} {s s' : Shared} {l r e : PySem.Expr} {n : Str} {np pos : Pos} {α : Type} {k : Kind α}
/-- script[:8], script no list of the ledger -/
theorem raw {a : Addr} {vs : List Value} {xs : List Int} {p cp : Pos} {i : Nat} {ck : Nat} (R : Rd h00 mg mb A env m cm B s.heap) (hv : m n = some (.ref a)) (hl : s.heap.IsList a vs.toArray) (hi : IntsAre vs xs) (hsz : xs.length ≤ sizeLine)
    (hk : env.scope.kind = .function := by rfl) (hlo : env.kindOf n = some .local := by rfl) (hd : (n == ("__debug__" : Str)) = false := by decide) :
    CE prog w A env (.Subscript (.Name n np) (.Slice none (some (.Constant (.int (i : Int)) ck cp)) none p) pos) B s (fun B v => kInt.list.rel B v (xs.take i)) := fun B' s' y => by
  have R' := R.stp y
  have hl' := y.kp.isList hl
  have hlen : vs.length = xs.length := hi.length
  refine Subscript_ (R'.name_l hv ?_ hk hlo hd)
  refine wpAny_Slice (wpAny_evalPart_none (wpAny_evalPart_some (wpAny_Constant_int (wpAny_evalPart_none ?_))))
  refine tail_any (hl'.push _).typeIs slot_list_getitem.lookup (wpAny_getItem_list_slice (hl'.push _) (Heap.IsSliceOf.new ..) .none (.int _ _) .none (by simp) ?_ (by simpa [hlen] using hsz)) (by rfl)
  rw [slicePick_upto']
  have st : Stp A B' s' B' { s' with heap := s'.heap.push { cls := .type "slice", data := .fields #[.none, .int (i : Int) s'.toks, .none] }, toks := s'.toks + 1 } := .keeps y.has fun b o e => Heap.get?_push_of_some _ e
  refine ⟨_, st.trans (stp_list (vs := vs.take i) (tk := s'.toks + 1) st.has), _, vs.take i, rfl, .head _, ?_⟩
  have := (ints_to (B := ((s'.heap.push { cls := .type "slice", data := .fields #[.none, .int (i : Int) s'.toks, .none] }).objs.size, vs.take i) :: B') hi).take i
  exact this
/-- a display of ints -/
theorem lits {es : List PySem.Expr} {xs : List Int} (he : starEach es env = es.map fun e => (false, eval e env)) (h : Lits es xs) (hsz : es.length ≤ sizeLine) : CE prog w A env (.List es pos) B s (fun B v => kInt.list.rel B v xs) := fun B' s' y => by
  have key : ∀ (es : List PySem.Expr) (xs : List Int) (s₁ : Shared) (Q : List Value → Shared → Prop), Lits es xs →
      (∀ vs tk, All2 (kInt.rel B') vs xs → Q vs { s₁ with toks := tk }) → wpAny (model prog w) A (spliced (backTo pos (es.map fun e => (false, eval e env)))) Q (fun _ _ => False) s₁ := by
    intro es xs s₁ Q hl
    induction hl generalizing s₁ Q with
    | nil => intro hq; exact spliced_nil (hq [] s₁.toks .nil)
    | cons x ck cp hl ih =>
      intro hq
      refine spliced_cons (wpAny_Constant_int (k := ck) (pos := cp) (ih _ _ fun vs tk hvs => ?_))
      exact hq _ tk (.cons ⟨_, rfl⟩ hvs)
  have hlen : es.length = xs.length := h.len
  refine List_ ?_
  rw [he]
  refine key es xs s' _ h fun vs tk hvs => ?_
  refine wpAny_newObj_type ?_ (by show vs.toArray.size ≤ sizeLine; rw [List.size_toArray, hvs.len, ← hlen]; exact hsz)
  have st : Stp A B' s' B' { s' with toks := tk } := .keeps y.has fun _ _ e => e
  exact ⟨_, st.trans (stp_list (vs := vs) (tk := tk) st.has), _, vs, rfl, .head _, hvs.mono fun _ _ q => kInt.mono (fun _ h => .tail _ h) q⟩
end CE
theorem con_sum {prog : Program} {w : World} {A : Around} {B : Led} {s : Shared} {v : Value} {xs : List Int} (hh : A.handled = none) (hb : Has s.heap B) (hv : kInt.list.rel B v xs) : Con prog w A (call (.builtin "sum") [v]) B s (fun B v => kInt.rel B v xs.sum) := by
  obtain ⟨l, vs, rfl, m, r⟩ := hv
  have hi := ints_of r
  have hl := (hb _ m).1
  obtain ⟨ys, hx⟩ := hi.allInts.items
  have hl' : s.heap.IsList l (intItems ys) := hx ▸ hl
  refine sum_intListG hh hl' fun h' tk t' hk => ?_
  have e1 : xs = ys.toList.map (·.1) := by
    rw [← nums_intItems, ← hx]
    exact (show numsOf vs.toArray.toList = xs from hi.numsOf).symm
  have e2 : preSum (numAt ys) ys.size = xs.sum := by
    rw [preSum_eq, List.take_of_length_le (by simp), e1]
  rw [e2]
  exact ⟨B, .keeps hb hk, _, rfl⟩
end Mine

end
section
open PySem PySem.W PyProof.Rows PySem.Calls
set_option Elab.async false
set_option autoImplicit false
set_option linter.unusedVariables false
set_option maxRecDepth 100000
namespace Mine
def moreL : List Int := [3, 10, 14, 44, 61, 47, 59, 22]
def numsL (xs : List Int) : List Int := (xs.take 8 ++ moreL).take 8
theorem numsL_len (xs : List Int) : (numsL xs).length ≤ 8 := by simp only [numsL, List.length_take]; omega
def totL (xs : List Int) : Int := (xs.take 8).sum
def drawnL (xs : List Int) : List (List Int) := (numsL xs).map fun x => clauseL (x.fmod 80 + 1).toNat
def tailL (xs : List Int) : List Int := ([4, 7, 7] : List Int).take ((totL xs).fmod 4).toNat
def wordsL (xs : List Int) : Str := if tailL xs = [] then wordsE else words1 ((tailL xs).length - 1)
def octL (xs : List Int) : List Int := (drawnL xs).flatMap (fun c => (c.length : Int) :: c) ++ tailL xs
/-- the names that law calls -/
structure LN (prog : Program) (w : World) (h00 : Heap) (mg mb : Str → Option Value) : Prop where
  e0 : Env0 h00 mg mb
  sum : mg "sum" = none ∧ mb "sum" = some (.builtin "sum")
  len : mg "len" = none ∧ mb "len" = some (.builtin "len")
  nm : Nm mg mb
  clause : ∃ f ann pm cd doc, mg "_law_clause" = some (.ref f) ∧ IsDef h00 f (fdT 18 ann pm cd doc) (dBody (topOf 18))

section
variable {prog : Program} {w : World} {h00 : Heap} {mg mb : Str → Option Value} {A : Around} {B₀ : Led} {s₀ : Shared} {f : Addr} {ann : Option Addr} {pm cd doc : Value} {L : Addr} {m cm : Str → Option Value} {Z : List (Addr × Obj)} {B : Led} {s : Shared} {Q : Flow → Shared → Prop} {E : Value → Shared → Prop}
abbrev lawE (ann : Option Addr) (pm cd doc : Value) (L f : Addr) : Env := callEnvC (fdT 24 ann pm cd doc) L f
/-- what stands after the first three statements -/
theorem law1 {a : Addr} {vs : List Value} {xs : List Int} (N : LN prog w h00 mg mb) (R : Room (A.deeper (lawE ann pm cd doc L f)) 2 12) (F : Fm h00 mg mb A B₀ s₀ (lawE ann pm cd doc L f) m cm Z B s) (hv : m "script" = some (.ref a)) (hl₀ : s₀.heap.IsList a vs.toArray) (hi : IntsAre vs xs) (hsz : xs.length ≤ 63)
    (hQ : ∀ m' B' s', (∀ p ∈ B, p ∈ B') → ∀ vt vd, m' "total" = some vt → kInt.rel B' vt (totL xs) → kInt.list.list.rel B' vd (drawnL xs) → Fm h00 mg mb A B₀ s₀ (lawE ann pm cd doc L f) m' (upd cm "drawn" vd) Z B' s' →
      wpC (model prog w) (A.deeper (lawE ann pm cd doc L f)) (execs ((dBody (topOf 24)).drop 3) (lawE ann pm cd doc L f)) Q E s') :
    wpC (model prog w) (A.deeper (lawE ann pm cd doc L f)) (execs (dBody (topOf 24)) (lawE ann pm cd doc L f)) Q E s := by
  have hsl : sizeLine = 16777216 := sizeLine_eq
  have hl := F.stp.kp.isList hl₀
  refine wpC_execs_cons (.any ?_)
  refine F.set (P := fun B v => kInt.list.rel B v (numsL xs)) (CE.upto (k := kInt) (i := 8) (CE.add (k := kInt) (CE.raw (i := 8) F.rd hv hl hi (by omega)) (CE.lits (xs := moreL) (by rfl) (by repeat constructor) (by decide)) (by simp only [List.length_take, moreL, List.length_cons, List.length_nil]; omega)) (CE.int fun B' s' y => .cst) (by simp only [List.length_append, List.length_take, moreL, List.length_cons, List.length_nil]; omega)) fun v₁ B₁ s₁ hs₁ hv₁ F₁ => ?_
  dsimp only
  have hl₁ : s₁.heap.IsList a vs.toArray := F₁.stp.kp.isList hl₀
  refine wpC_execs_cons (.any ?_)
  refine F₁.set (P := fun B v => kInt.rel B v (totL xs)) (CE.callB F₁.rd N.sum.1 N.sum.2 (CE.raw (i := 8) F₁.rd (upd_get hv) hl₁ hi (by omega)) fun v B' s' G' hb' _ hv => con_sum R.hh hb' hv) fun v₂ B₂ s₂ hs₂ hv₂ F₂ => ?_
  dsimp only
  refine wpC_execs_cons (.any ?_)
  obtain ⟨fC, annC, pmC, cdC, docC, hfC, DC⟩ := N.clause
  refine wpAny_Assign_Name ((con_map (k := kInt) (k' := kInt.list) (cl := []) (xs := numsL xs) (g := fun x => clauseL (x.fmod 80 + 1).toNat) F₂.rd (by rfl) R.hh (by have := numsL_len xs; omega) ((CE.loc F₂.rd (upd_get upd_same) (kInt.list.mono hs₂ hv₁)).now F₂.rd.has) ?_ (fun _ _ h => (nomatch h))).use fun vd B₃ s₃ y₃ hvd => ?_)
  · intro x v B₃ s₃ C m₂ hx hvx hs₃ R₃
    have hx0 : 0 ≤ x.fmod 80 := Int.fmod_nonneg_of_pos _ (by decide)
    obtain ⟨t, rfl⟩ := hvx
    refine (CE.call1 (P := fun B v => kInt.list.rel B v (clauseL (x.fmod 80 + 1).toNat)) R₃ (.def DC) hfC (CE.int (x := ((x.fmod 80 + 1).toNat : Int)) fun B' s' y => ?_) fun v B' s' G' hb' _ hv => clause_meets DC N.nm N.e0 G' hb' (R.mono (by omega) (by omega)) hv).now R₃.has
    exact .to (.add (.mod (.loc (R₃.stp y) ⟨t, upd_same⟩) .cst (by decide)) .cst) (by omega)
  · have F₃ := F₂.go y₃
    refine F₃.stc (c := L + 1) (by rfl) fun s₄ F₄ => ?_
    dsimp only
    exact hQ _ _ _ (fun p hp => y₃.sub p (hs₂ p (hs₁ p hp))) v₂ vd upd_same (kInt.mono y₃.sub hv₂) hvd F₄
end
end Mine

end
section
open PySem PySem.W PyProof.Rows PySem.Calls
set_option Elab.async false
set_option autoImplicit false
set_option linter.unusedVariables false
set_option maxRecDepth 100000
namespace Mine
def flatL (cs : List (List Int)) : List Int := cs.flatMap fun c => (c.length : Int) :: c
theorem flat_take {cs : List (List Int)} {i : Nat} {c : List Int} (h : cs[i]? = some c) : flatL (cs.take (i + 1)) = flatL (cs.take i) ++ (c.length : Int) :: c := by
  rw [List.take_add_one, h]; simp [flatL]
theorem flat_len {cs : List (List Int)} {k : Nat} (h : ∀ c ∈ cs, c.length ≤ k) : (flatL cs).length ≤ cs.length * (k + 1) := by
  induction cs with
  | nil => simp [flatL]
  | cons c cs ih =>
    have h1 := h c (.head _)
    have h2 := ih fun c hc => h c (.tail _ hc)
    have e : flatL (c :: cs) = ((c.length : Int) :: c) ++ flatL cs := rfl
    rw [e, List.length_append, List.length_cons, List.length_cons, Nat.succ_mul]
    omega
section
variable {prog : Program} {w : World} {h00 : Heap} {mg mb : Str → Option Value} {A : Around} {B₀ : Led} {s₀ : Shared} {f : Addr} {ann : Option Addr} {pm cd doc : Value} {L : Addr} {m cm : Str → Option Value} {Z : List (Addr × Obj)} {B : Led} {s : Shared} {Q : Flow → Shared → Prop} {E : Value → Shared → Prop}
theorem law2 {xs : List Int} {vt vd : Value} (N : LN prog w h00 mg mb) (R : Room (A.deeper (lawE ann pm cd doc L f)) 2 12) (F : Fm h00 mg mb A B₀ s₀ (lawE ann pm cd doc L f) m (upd cm "drawn" vd) Z B s) (hvt : m "total" = some vt) (hvt' : kInt.rel B vt (totL xs)) (hvd : kInt.list.list.rel B vd (drawnL xs)) (hd : (drawnL xs).length ≤ 8 ∧ ∀ c ∈ drawnL xs, c.length ≤ 4)
    (hQ : ∀ m' B' s', (∀ p ∈ B, p ∈ B') → ∀ vo u, m' "total" = some vt → m' "words" = some (.str (wordsL xs) u) → m' "octets" = some vo → kInt.list.rel B' vo (octL xs) → Fm h00 mg mb A B₀ s₀ (lawE ann pm cd doc L f) m' (upd cm "drawn" vd) Z B' s' →
      wpC (model prog w) (A.deeper (lawE ann pm cd doc L f)) (execs ((dBody (topOf 24)).drop 7) (lawE ann pm cd doc L f)) Q E s') :
    wpC (model prog w) (A.deeper (lawE ann pm cd doc L f)) (execs ((dBody (topOf 24)).drop 3) (lawE ann pm cd doc L f)) Q E s := by
  have hsl : sizeLine = 16777216 := sizeLine_eq
  obtain ⟨t, rfl⟩ := hvt'
  have h4 : 0 ≤ (totL xs).fmod 4 := Int.fmod_nonneg_of_pos _ (by decide)
  refine wpC_execs_cons (.any ?_)
  refine F.set (P := fun B v => kInt.list.rel B v (tailL xs)) (CE.upto (k := kInt) (CE.lits (xs := [4, 7, 7]) (by rfl) (by repeat constructor) (by decide)) (CE.int (x := (((totL xs).fmod 4).toNat : Int)) fun B' s' y => .to (.mod (.loc (F.rd.stp y) ⟨t, hvt⟩) .cst (by decide)) (by omega)) (by decide)) fun v₁ B₁ s₁ hs₁ hv₁ F₁ => ?_
  dsimp only
  refine wpC_execs_cons (.any ?_)
  refine wpAny_Assign_Name (wpAny_Constant_str ?_)
  refine Fm.st (F₁.lt (s₁.toks + 1)) fun s₂ F₂ => ?_
  dsimp only
  have lt3 : (tailL xs).length ≤ 3 := by simp only [tailL, List.length_take, List.length_cons, List.length_nil]; omega
  /- the octets -/
  have last : ∀ (m' : Str → Option Value) (B' : Led) (s' : Shared) (u : Tok), (∀ p ∈ B, p ∈ B') → m' "total" = some (.int (totL xs) t) → m' "words" = some (.str (wordsL xs) u) → m' "tail" = some v₁ → kInt.list.rel B' v₁ (tailL xs) → Fm h00 mg mb A B₀ s₀ (lawE ann pm cd doc L f) m' (upd cm "drawn" vd) Z B' s' →
      wpC (model prog w) (A.deeper (lawE ann pm cd doc L f)) (execs ((dBody (topOf 24)).drop 6) (lawE ann pm cd doc L f)) Q E s' := by
    intro m' B' s' u hs g1 g2 g3 g4 F'
    refine wpC_execs_cons (.any ?_)
    have hvd' := kInt.list.list.mono hs hvd
    have lflat : (flatL (drawnL xs)).length ≤ 40 := Nat.le_trans (flat_len hd.2) (by have := hd.1; omega)
    refine F'.set (P := fun B v => kInt.list.rel B v (octL xs)) (CE.add (k := kInt) (xs := flatL (drawnL xs)) (fun B₂ s₂ y => ?_) (CE.loc F'.rd g3 g4) (by omega)) fun vo B₃ s₃ hs₃ hvo F₃ => ?_
    · have R₂ := F'.rd.stp y
      refine con_comp2 (cl := []) (n := (drawnL xs).length) (P := fun i u => ∃ x, (drawnL xs)[i]? = some x ∧ kInt.list.rel B₂ u x) R₂ (by rfl) ?_ (fun _ _ h => (nomatch h))
      refine R₂.name_c (c := L + 1) (by rfl) upd_same ?_
      refine ⟨B₂, .refl R₂.has, R₂, Src.rel (by exact R.hh) R₂.has (kInt.list.list.mono y.sub hvd'), fun j ys B₃ => All2 (kInt.rel B₃) ys (flatL ((drawnL xs).take j)), .nil, ?_, ?_⟩
      · rintro j v₃ ys B₃ s₅ C m₂ hj ⟨st, hst, hv₃⟩ hs₃ hJ R₅
        have h4 := hd.2 st (List.mem_of_getElem? hst)
        have ljt : (flatL ((drawnL xs).take j)).length ≤ 40 := by
          refine Nat.le_trans (flat_len (k := 4) fun c hc => hd.2 c (List.mem_of_mem_take hc)) ?_
          rw [List.length_take]; have := hd.1; omega
        have hv₃' : kInt.list.rel B₃ v₃ st := kInt.list.mono hs₃ hv₃
        refine ((CE.add (k := kInt) (xs := [(st.length : Int)]) (ys := st) (CE.one (k := kInt) fun B₆ s₆ y₆ => ?_) (CE.loc R₅ upd_same hv₃') (by simp only [List.length_singleton]; omega)).now R₅.has).use fun xv B₄ s₄ y₄ hxv => ?_
        · have R₆ := R₅.stp y₆
          exact callB1 (fun Q' hq => R₆.name_b N.len.1 N.len.2 hq) (R₆.name_l upd_same (len_ kInt R₆.has (kInt.list.mono y₆.sub hv₃') (by omega) fun t₅ tk₅ => ⟨B₆, .keeps R₆.has fun _ _ e => e, t₅, rfl⟩))
        · refine ⟨B₄, _, _, y₄, Src.rel (by exact R.hh) y₄.has hxv, fun k ys' B₅ => All2 (kInt.rel B₅) ys' (flatL ((drawnL xs).take j) ++ ([(st.length : Int)] ++ st).take k), ?_, ?_, ?_⟩
          · simpa using hJ.mono fun _ _ h => kInt.mono y₄.sub h
          · rintro k u₂ ys' B₅ s₇ m₃ hk ⟨x, hx, hu₂⟩ hs₄ hK hm₃ R₇
            refine ((CE.loc (k := kInt) R₇ upd_same (kInt.mono hs₄ hu₂)).now R₇.has).mono fun B₆ e hs₆ he => ⟨?_, ?_⟩
            · have a := hK.len
              rw [List.length_append, List.length_take, List.length_append] at a
              simp only [List.length_singleton] at a
              omega
            · show All2 _ _ _
              rw [List.take_add_one, hx, ← List.append_assoc]
              exact app_one (hK.mono fun _ _ h => kInt.mono hs₆ h) he
          · intro ys' B₅ hs₄ hK
            show All2 _ _ _
            rw [flat_take hst]
            rwa [List.take_length] at hK
      · intro D ys B₃ hs₃ hJ
        rw [List.take_length] at hJ
        exact ⟨_, _, rfl, .head _, hJ.mono fun _ _ h => kInt.mono (fun _ h => .tail _ h) h⟩
    · dsimp only
      exact hQ _ _ _ (fun p hp => hs₃ p (hs p hp)) vo u (upd_get g1) (upd_get g2) upd_same hvo F₃
  refine wpC_execs_cons (.any (wpAny_If (wpAny_isTrue_Compare1 ?_)))
  refine F₂.rd.name_l (upd_get upd_same) ?_
  refine ((CE.nil (k := kInt)).now F₂.rd.has).use fun v₃ B₃ s₃ y₃ hv₃ => ?_
  have F₃ := F₂.go y₃
  have hv₁₃ := kInt.list.mono y₃.sub hv₁
  refine ne_lists kInt F₃.rd.has hv₁₃ hv₃ (by have := R.un; simp only [kInt] at this ⊢; omega) (decide (tailL xs ≠ [])) decide_eq_true_iff (wpAny_truthy_bool ?_)
  by_cases hnil : tailL xs = []
  · rw [decide_eq_false (by simpa using hnil), if_neg (by decide)]
    refine wpAny_execs_nil ?_
    dsimp only
    refine last _ _ _ s₁.toks (fun p hp => y₃.sub p (hs₁ p hp)) (upd_get (upd_get hvt)) ?_ (upd_get upd_same) hv₁₃ F₃
    rw [wordsL, if_pos hnil]
    exact upd_same
  · rw [decide_eq_true (by simpa using hnil), if_pos rfl]
    have hpos : 1 ≤ (tailL xs).length := by
      cases h : tailL xs with
      | nil => exact absurd h hnil
      | cons _ _ => simp
    refine wpAny_execs_cons (wpAny_Assign_Name (wpAny_BinOp (wpAny_Constant_str (wpAny_BinOp ?_))))
    have F₄ := F₃.lt (s₃.toks + 1)
    refine callB1 (fun Q' hq => F₄.rd.name_b N.len.1 N.len.2 hq) (F₄.rd.name_l (upd_get upd_same) (len_ kInt F₄.rd.has hv₁₃ (by omega) fun t₅ tk₅ => ?_))
    refine wpAny_Constant_int (sub_int ?_)
    rw [show ((tailL xs).length : Int) - 1 = (((tailL xs).length - 1 : Nat) : Int) by omega]
    refine fmt1 (by omega) fun t' k => ?_
    refine Fm.st (F₄.lt k) fun s₅ F₅ => ?_
    dsimp only
    refine wpAny_execs_nil ?_
    dsimp only
    refine last _ _ _ t' (fun p hp => y₃.sub p (hs₁ p hp)) (upd_get (upd_get (upd_get hvt))) ?_ (upd_get (upd_get upd_same)) hv₁₃ F₅
    rw [wordsL, if_neg hnil]
    exact upd_same
end
end Mine

end
section
open PySem PySem.W PyProof.Rows PySem.Calls
set_option Elab.async false
set_option autoImplicit false
set_option linter.unusedVariables false
set_option maxRecDepth 100000
namespace Mine
section
variable {M : Model} {A : Around} {E : Value → Shared → Prop} {s : Shared} {env : Env}
theorem wpC_Assign_Name {x pos' value pos} {Q : Flow → Shared → Prop}
    (h : wpC M A (eval value env) (fun v s₁ => wpAny M A (storeName env x v) (fun _ s₂ => Q .next s₂) E s₁) E s)
    (hs : swapsWith value (some (.Name x pos')) pos.line env = pure false := by rfl) :
    wpC M A (exec (.Assign [.Name x pos'] value pos) env) Q E s := by
  rw [exec_Assign_Name env x pos' value pos hs]
  refine wpC_bind (wpC_standAt (wpC_bind (wpC_mono h (fun v s₁ h₁ => ?_) fun _ _ x => x)))
  exact .any (wpAny_bind (wpAny_standAt (wpAny_bind (wpAny_bindName (wpAny_mono h₁ (fun u s₃ h₃ => wpAny_pure h₃) fun _ _ x => x)))))
theorem callWith_ofC {pos : Pos} {f : Value} {first : List Value} {Q : Value → Shared → Prop} {P : Heap → Prop} {args : List (Bool × Sem Value)} {keywords : List (Option Str × Sem Value)} (hplain : (args.any (·.1) || keywords.any (·.1.isNone)) = false)
    (hk : ∀ h, P h → ∃ k, (k = Keeper.frame ∨ k = Keeper.machine ∨ k = Keeper.boundFrame) ∧ Looks M h (keeperOf f) k)
    (h : wpAny M A (evalArgs f true args keywords) (fun a s₁ => P s₁.heap ∧ wpC M A (call f (first ++ a.pos) a.kw) Q E s₁) E s) : wpC M A (callWith pos f first args keywords) Q E s := by
  unfold callWith
  refine wpC_bindA (wpAny_holding (wpAny_mono h (fun a s₁ h₁ => wpC_bindA (wpAny_standAt ?_)) fun _ _ x => x))
  obtain ⟨k, hk', L⟩ := hk _ h₁.1
  simp only [hplain]
  refine wpC_bindA (L.here ?_)
  have tail : ∀ {t : Sem Value}, wpC M A t Q E s₁ → wpC M A (t >>= fun r => holding [r] point >>= fun _ => pure r) Q E s₁ :=
    fun ht => wpC_bind (wpC_mono ht (fun r s₂ hr => .any (wpAny_bind (wpAny_holding (wpAny_point (wpAny_pure hr))))) fun _ _ x => x)
  have marked (mk : Value) : wpC M A (callMarked mk f (first ++ a.pos) a.kw) Q E s₁ := by
    unfold callMarked
    exact fun Γ p hΓ cl => by rw [Sem.wp_keep]; exact h₁.2 Γ p hΓ cl
  rcases hk' with rfl | rfl | rfl <;> dsimp only <;> first | exact tail h₁.2 | (split <;> first | exact tail h₁.2 | exact tail (marked _))
end

section
variable {h00 : Heap} {mg mb : Str → Option Value} {A₀ : Around} {B₀ : Led} {s₀ : Shared} {env : Env} {m cm m' cm' : Str → Option Value} {Z Z' : List (Addr × Obj)} {B : Led} {s : Shared}
theorem Fm.addpin' {s₁ s' : Shared} {B₁ : Led} {a : Addr} {o : Obj} (F : Fm h00 mg mb A₀ B₀ s₀ env m cm Z B s') (F₁ : Fm h00 mg mb A₀ B₀ s₀ env m' cm' Z' B₁ s₁) (ho : s'.heap.get? a = some o) (hn : s₁.heap.get? a = none) (hns : ∀ xs n, o.data ≠ .seq xs n) :
    Fm h00 mg mb A₀ B₀ s₀ env m cm ((a, o) :: Z) B s' := by
  refine ⟨F.rd, F.gl0, F.stp, F.apart, F.newL, F.newC, F.frame, fun p hp => ?_, fun p hp q hq e => ?_⟩
  · rcases List.mem_cons.mp hp with rfl | hp
    · refine ⟨ho, fun e => ?_, fun n c hc e => ?_, F₁.stp.kp.some hn⟩
      · obtain ⟨oL, _, _, hL, _⟩ := F₁.rd.ns
        have : s₁.heap.get? a = some oL := by rw [show a = env.locals from e]; exact hL
        rw [hn] at this; cases this
      · obtain ⟨oc, hoc, _⟩ := F₁.rd.cell n c hc
        have : s₁.heap.get? a = some oc := by rw [show a = c from e]; exact hoc
        rw [hn] at this; cases this
    · exact F.pin p hp
  · rcases List.mem_cons.mp hp with rfl | hp
    · obtain ⟨⟨ol, hol, _, n, hd⟩, _⟩ := F.rd.has q hq
      rw [show q.1 = a from e, ho] at hol; cases hol; exact hns _ _ hd
    · exact F.offB p hp q hq e
end

abbrev xObj (C dx : Addr) (sl : Array (Option Value)) : Obj := { cls := .ref C, dict := some dx, data := .plain, slots := sl }
abbrev bObj (b : Array UInt8) (sl : Array (Option Value)) : Obj := { cls := .type "bytearray", data := .bytearray b, slots := sl }
/-- the objects of a stream -/
abbrev stZ (C x dx bb : Addr) (b : Array UInt8) (es : List DictEntry) (n : Nat) (sl sl' : Array (Option Value)) : List (Addr × Obj) := [(dx, dictOf es n), (x, xObj C dx sl), (bb, bObj b sl')]

section
variable {prog : Program} {w : World} {h00 : Heap} {mg mb : Str → Option Value} {A₀ : Around} {B₀ : Led} {s₀ : Shared} {env : Env} {m cm : Str → Option Value} {B : Led} {s : Shared} {K : Frag} {C sm fNew fInit td : Addr} {E : Value → Shared → Prop}
/-- BytesIO(bytes), in a frame -/
theorem bio_made {b : Array UInt8} {t : Tok} {Q : Value → Shared → Prop} (T : BF h00 K C sm fNew fInit) (TI : BI h00 K C fInit td) (N : Nm3 mg mb C) (N4 : Nm4 mg mb) (F : Fm h00 mg mb A₀ B₀ s₀ env m cm [] B s) (Rm : Room (A₀.deeper env) 3 12) (hsz : b.size ≤ 16777216)
    (hQ : ∀ s' x dx bb es n sl sl', x ≠ dx → bb ≠ dx → x ≠ bb → Ent es bb 0 → Fm h00 mg mb A₀ B₀ s₀ env m cm (stZ C x dx bb b es n sl sl') B s' → Q (.ref x) s') :
    wpC (model prog w) (A₀.deeper env) (call (.ref C) [.bytes b t]) Q E s := by
  refine wpC_call (bio_make T N F.rd.e0 F.rd.gl F.rd.has Rm fun s' x dx y hx hdx nx ndx hne => ?_)
  have F₁ := F.go y
  have F₂ := F₁.addpin' F hdx ndx (fun _ _ q => by cases q)
  have G' : Gl h00 ((A₀.deeper env).under (.builtin "type.__call__" ⟨[.ref C, .bytes b t], []⟩)) s'.heap := F₁.rd.gl.around rfl
  have hO : Own h00 ((A₀.deeper env).under (.builtin "type.__call__" ⟨[.ref C, .bytes b t], []⟩)) B s'.heap [(dx, emptyDict)] := F₂.own (Z' := [(dx, emptyDict)]) fun p hp => hp
  refine init_meets TI N4 F.rd.e0 G' F₁.rd.has (by have := Rm.dp; show (A₀.deeper env).depth + 1 < _; omega) hsz hO ⟨_, hx⟩ hne fun s'' bb es n y' hd' hb' nb hbd he => ?_
  have y'' : Stp (A₀.deeper env) B (hid s' [dx]) B s'' := y'.around rfl
  have F₃ := F₂.back (by simp) y'' hd' (fun _ _ q => by cases q)
  obtain ⟨sl', hb'⟩ := hb'
  obtain ⟨sl, hx'⟩ := y''.kp.ins (Ins.hid (l := [dx]) ⟨_, hx⟩ (by simpa using hne))
  have nb' : s.heap.get? bb = none := by
    cases q : s.heap.get? bb with
    | none => rfl
    | some o => obtain ⟨_, e⟩ := y.kp.slot _ _ q; rw [nb] at e; cases e
  have hxb : x ≠ bb := fun e => by rw [e, hb'] at hx'; cases hx'
  have F₄ := (F₃.addpin' F hx' nx (fun _ _ q => by cases q)).addpin' F hb' nb' (fun _ _ q => by cases q)
  refine hQ _ x dx bb es n sl sl' hne hbd hxb he (F₄.sub (Z' := stZ C x dx bb b es n sl sl') fun p hp => ?_)
  rcases List.mem_cons.mp hp with rfl | hp
  · exact .tail _ (.tail _ (.head _))
  · rcases List.mem_cons.mp hp with rfl | hp
    · exact .tail _ (.head _)
    · rw [List.mem_singleton.mp hp]; exact .head _
end
end Mine

end
section
open PySem PySem.W PyProof.Rows PySem.Calls
set_option Elab.async false
set_option autoImplicit false
set_option linter.unusedVariables false
set_option maxRecDepth 100000
namespace Mine
section
variable {prog : Program} {w : World} {h00 : Heap} {mg mb : Str → Option Value} {A : Around} {B₀ : Led} {s₀ : Shared} {f : Addr} {ann : Option Addr} {pm cd doc : Value} {L : Addr} {m cm : Str → Option Value} {B : Led} {s : Shared} {Q : Flow → Shared → Prop} {E : Value → Shared → Prop} {K : Frag} {C sm fNew fInit td : Addr}
theorem law3 {os : List Int} {vo : Value} (T : BF h00 K C sm fNew fInit) (TI : BI h00 K C fInit td) (N3 : Nm3 mg mb C) (N4 : Nm4 mg mb) (hkeep : keepIn K (.ref C) = true) (R : Room (A.deeper (lawE ann pm cd doc L f)) 3 12) (F : Fm h00 mg mb A B₀ s₀ (lawE ann pm cd doc L f) m cm [] B s) (hvo : m "octets" = some vo) (hvo' : kInt.list.rel B vo os) (hos : ∀ n ∈ os, 0 ≤ n ∧ n < 256) (hlen : os.length ≤ 1000)
    (hQ : ∀ s' x dx bb es n sl sl', x ≠ dx → bb ≠ dx → x ≠ bb → Ent es bb 0 → Fm h00 mg mb A B₀ s₀ (lawE ann pm cd doc L f) m (upd cm "stream" (.ref x)) (stZ C x dx bb (byteArr os) es n sl sl') B s' →
      wpAny (model prog w) (A.deeper (lawE ann pm cd doc L f)) (execs ((dBody (topOf 24)).drop 8) (lawE ann pm cd doc L f)) Q E s') :
    wpC (model prog w) (A.deeper (lawE ann pm cd doc L f)) (execs ((dBody (topOf 24)).drop 7) (lawE ann pm cd doc L f)) Q E s := by
  have hsl : sizeLine = 16777216 := sizeLine_eq
  refine wpC_execs_cons (wpC_Assign_Name (wpC_Call_ofName (F.rd.name_g N3.bio ?_)))
  obtain ⟨l, vs, rfl, hm, r⟩ := hvo'
  refine callWith_ofC (P := h00.StaysIn) (by rfl) (Callee.of_K (prog := prog) (w := w) T.X hkeep) (evalArgs_plain (spliced_cons ?_))
  refine callT1 (fun Q' hq => F.rd.name_b N4.bytes.1 N4.bytes.2 hq) (F.rd.name_l hvo ?_)
  refine call_bytes_ints (F.rd.has _ hm).1 (ints_of r) hos (by rw [r.len]; omega) R.hh fun h' t k hk => ?_
  have F₁ := F.go (.keeps F.rd.has (tk := k) hk)
  refine spliced_nil ⟨F₁.rd.gl.stay, ?_⟩
  refine bio_made T TI N3 N4 F₁ R (by rw [byteArr_size]; omega) fun s' x dx bb es n sl sl' h1 h2 h3 he F₂ => ?_
  refine F₂.stc (c := L + 2) (by rfl) fun s'' F₃ => ?_
  dsimp only
  exact .any (hQ _ _ _ _ _ _ _ _ h1 h2 h3 he F₃)
end
end Mine

end
section
open PySem PySem.W PyProof.Rows PySem.Calls
set_option Elab.async false
set_option autoImplicit false
set_option linter.unusedVariables false
set_option maxRecDepth 100000
namespace Mine
/-! a comprehension whose element changes an own object H -/
section
variable {A : Around} {B : Led} {s₁ : Shared} {I C D H : Addr} {ys : List Value} {B₁ B₂ : Led} {o oW oW' : Obj} {m₂ : Str → Option Value} {s' s'' : Shared}
theorem Lp.stepH (L : Lp A B (hid s₁ [H]) [(H, oW)] I C D ys B₁ o m₂ s') (x : Apart3 A (hid s₁ [H]).heap [(H, oW)] I C D) (y : Stp A B₁ (hid s' [H]) B₂ s'') (hH : s''.heap.get? H = some oW') : Lp A B (hid s₁ [H]) [(H, oW')] I C D ys B₂ o m₂ s'' := by
  obtain ⟨⟨h₁, t₁, e1⟩, k1, a1, b1, c1, d1, i1, l1, n1, z1⟩ := L
  obtain ⟨⟨h₂, t₂, e2⟩, k2, a2, b2, c2⟩ := y
  obtain ⟨xI, xC, xD, xF⟩ := x.z _ (.head _)
  have k2' : Kp (frs A) (hideAll s'.heap [H]) s''.heap := k2
  have off : ∀ b o, (hideAll s₁.heap [H]).get? b = some o → b ∉ [H] := fun b o e hm => by rw [hideAll_none [H] hm] at e; cases e
  have ge : ∀ {b : Addr} {o : Obj}, b ≠ H → s'.heap.get? b = some o → (hideAll s'.heap [H]).get? b = some o := fun hb e => hideAll_get [H] e (by simpa using hb)
  refine ⟨⟨h₂, t₂, by rw [e2, e1]; rfl⟩, ⟨fun b o hb e => k2'.keep b o hb (hideAll_get [H] (k1.keep b o hb e) (off b o e)), fun b o e => ?_⟩, a2, fun p hp => b2 p (b1 p hp), fun p hp => ?_, fun p hp => ?_, k2'.keep _ _ x.fi (ge (Ne.symm xI) i1), k2'.lst (l1.keeps fun o e => ge (Ne.symm xD) e), ?_, fun p hp => ?_⟩
  · obtain ⟨sl, e'⟩ := k1.slot b o e
    obtain ⟨sl2, e''⟩ := k2'.slot b _ (hideAll_get [H] e' (off b o e))
    exact ⟨sl2, e''⟩
  · rcases c2 p hp with h | h
    · exact c1 p h
    · refine .inr ?_
      cases q : (hid s₁ [H]).heap.get? p.1 with
      | none => rfl
      | some ob =>
        obtain ⟨sl, e'⟩ := k1.slot _ _ q
        have := hideAll_get [H] e' (off _ _ q)
        have h' : (hideAll s'.heap [H]).get? p.1 = none := h
        rw [h'] at this; cases this
  · rcases c2 p hp with h | h
    · exact d1 p h
    · intro q
      obtain ⟨ol, hol, _⟩ := l1.1
      have := ge (Ne.symm xD) hol
      have h' : (hideAll s'.heap [H]).get? p.1 = none := h
      rw [q, this] at h'; cases h'
  · obtain ⟨oc, es, ep, hoc, hdc, r⟩ := n1
    exact k2'.ns ⟨oc, es, ep, ge (Ne.symm xC) hoc, hdc, r⟩
  · rw [List.mem_singleton.mp hp]; exact hH
end

section
variable {prog : Program} {w : World} {h00 : Heap} {mg mb : Str → Option Value} {A : Around} {env : Env} {m cm : Str → Option Value} {B : Led} {s₁ : Shared} {H : Addr} {W : Nat → Obj → Prop}
/-- what a turn does -/
def TurnH (prog : Program) (w : World) (h00 : Heap) (mg mb : Str → Option Value) (A : Around) (env : Env) (cm : Str → Option Value) (B : Led) (s₁ : Shared) (H : Addr) (W : Nat → Obj → Prop) (scope : Scope) (cl : List (Str × Addr)) (x : Str) (elt : PySem.Expr) (n : Nat) (P : Nat → Value → Prop) (J : Nat → List Value → Led → Prop) : Prop :=
  ∀ i v ys B₁ s₃ C m₂ oW, i < n → P i v → (∀ p ∈ B, p ∈ B₁) → J i ys B₁ → W i oW → s₃.heap.get? H = some oW → Kp (frs A) (hid s₁ [H]).heap s₃.heap → (∀ q ∈ B₁, q.1 ≠ H) → Rd h00 mg mb A (compEnvC scope cl C env) (upd m₂ x v) cm B₁ s₃.heap →
    wpAny (model prog w) A (eval elt (compEnvC scope cl C env)) (fun y s₅ => ys.length ≤ sizeLine ∧ ∃ B₃ oW', Stp A B₁ (hid s₃ [H]) B₃ s₅ ∧ s₅.heap.get? H = some oW' ∧ W (i + 1) oW' ∧ J (i + 1) (ys ++ [y]) B₃) (fun _ _ => False) s₃
theorem comp_loopH {elt iter : PySem.Expr} {x : Str} {px : Pos} {scope : Scope} {cl : List (Str × Addr)} {pos : Pos} {n : Nat} {P : Nat → Value → Prop} {St : Nat → Obj → Prop} {oI o0 : Obj} {I C D : Addr} {m₂ : Str → Option Value} {s : Shared}
    {RR : Result → Shared → Prop} (R : Rd h00 mg mb A env m cm B s₁.heap) (hH : h00.get? H = none) (hL : H ≠ env.locals) (hcellH : ∀ n c, env.cells.lookup n = some c → H ≠ c) (hfH : H ∉ frs A) (hW : ∀ i o, W i o → ∀ xs n, o.data ≠ .seq xs n) (T : Iter prog w A I B n P St) (hst : St 0 oI) (X : ∀ oW, Apart3 A (hid s₁ [H]).heap [(H, oW)] I C D) (hcl : ∀ n c, cl.lookup n = some c → env.cells.lookup n = some c)
    (hkind : scope.kind = .function) (hx : scope.names.lookup x = some .local)
    (J : Nat → List Value → Led → Prop) (h0 : J 0 [] B) (w0 : W 0 o0) (L : Lp A B (hid s₁ [H]) [(H, o0)] I C D [] B oI m₂ s)
    (turn : TurnH prog w h00 mg mb A env cm B s₁ H W scope cl x elt n P J)
    (fin : ∀ m₃ ys B₁ s' oW, s'.heap.Ns C m₃ → (∀ p ∈ B, p ∈ B₁) → J n ys B₁ → W n oW → s'.heap.get? H = some oW → Stp A B (hid s₁ [H]) ((D, ys) :: B₁) s' → RR (.ok .next) s') :
    codeAny (model prog w) A (.compLoop (.ListComp elt [⟨.Name x px, iter, [], 0⟩] scope pos) 0 (.ref I) (.ref D) (compEnvC scope cl C env)) RR s := by
  have G0 : Gl h00 A (hid s₁ [H]).heap := by
    refine ⟨fun b o e => hideAll_get _ (R.gl.stay b o e) fun hm => ?_, R.gl.stack, funFrames_hideAll R.gl.frames fun env' he a ha q => ?_⟩
    · rw [List.mem_singleton.mp hm, hH] at e; cases e
    · exact hfH (List.mem_filterMap.mpr ⟨env', he, by rw [← List.mem_singleton.mp ha]; exact q⟩)
  have cell0 : ∀ n c, env.cells.lookup n = some c → (hid s₁ [H]).heap.IsCell c (cm n) := fun n c hc => by
    obtain ⟨oc, hoc, hdc⟩ := R.cell n c hc
    exact ⟨oc, hideAll_get [H] hoc (by simpa using Ne.symm (hcellH n c hc)), hdc⟩
  refine codeAny_compLoop_tests (fun k s' => ∃ i o oW m₃ ys B₁, i ≤ n ∧ k = n + 1 - i ∧ St i o ∧ W i oW ∧ J i ys B₁ ∧ Lp A B (hid s₁ [H]) [(H, oW)] I C D ys B₁ o m₃ s') ?_ (n + 1) ⟨0, oI, o0, m₂, [], B, Nat.zero_le _, rfl, hst, w0, h0, L⟩
  rintro k s' ⟨i, o, oW, m₃, ys, B₁, hi, rfl, hst', hWi, hJ, L'⟩
  have hasB : Has s'.heap B := fun p hp => L'.has p (L'.sub p hp)
  by_cases hlt : i < n
  · refine T.item i s' o _ _ hlt hasB L'.hI hst' fun v h' tk o' hP ho' hst'' hs' => ?_
    have L₁ := L'.next (tk := tk) (X oW) (T.notSeq _ _ hst') hs' ho'
    refine wpAny_assign_Name (wpAny_storeName_local (lookup_relabel_local hx) L₁.hC (fun h₂ hn₂ hs₂ => ?_) (by simp [compEnvC, relabel, hkind]))
    have L₂ := L₁.set (tk := tk + 1) (X oW) hs₂ hn₂
    have R₂ : Rd h00 mg mb A (compEnvC scope cl C env) (upd m₃ x v) cm B₁ h₂ := ⟨R.e0, G0.kp L₂.kp, hn₂, fun n c hc => L₂.kp.isCell (cell0 n c (hcl n c hc)), L₂.has⟩
    have hHH : h₂.get? H = some oW := L₂.pin _ (.head _)
    have offH : ∀ q ∈ B₁, q.1 ≠ H := fun q hq e => by
      obtain ⟨⟨ol, hol, _, n', hd⟩, _⟩ := L₂.has q hq
      have hol' : h₂.get? q.1 = some ol := hol
      rw [e, hHH] at hol'; cases hol'; exact hW _ _ hWi _ _ hd
    refine wpAny_tests_nil ?_
    rw [if_pos rfl]
    refine wpAny_mono (turn i v ys B₁ { s' with heap := h₂, toks := tk + 1 } C m₃ oW hlt hP L'.sub hJ hWi hHH L₂.kp offH R₂) (fun y s₄ h₄ => ?_) fun _ _ q => q.elim
    obtain ⟨hsz, B₃, oW', z, hH', hW', j⟩ := h₄
    have L₃ := L₂.stepH (X oW) z hH'
    refine append_lst L₃.hD (fun h₅ hl₅ hs₅ => ?_) (by simpa using hsz)
    exact ⟨n + 1 - (i + 1), by omega, i + 1, o', oW', _, ys ++ [y], B₃, hlt, rfl, hst'', hW', j, L₃.app (tk := s₄.toks) (X oW') hs₅ hl₅⟩
  · have e : i = n := by omega
    subst e
    refine T.done s' o _ _ hasB L'.hI hst' fun h' tk hs' => ?_
    obtain ⟨a, b⟩ := L'.fin (tk := tk) (X oW) (T.notSeq _ _ hst') hs'
    exact fin m₃ ys B₁ _ oW b L'.sub hJ hWi (hs' _ _ ((X oW).z _ (.head _)).1 (L'.pin _ (.head _))) a

theorem comp_coreH {elt iter : PySem.Expr} {x : Str} {px : Pos} {scope : Scope} {cl : List (Str × Addr)} {pos : Pos} {n : Nat} {P : Nat → Value → Prop} {St : Nat → Obj → Prop} {oI o0 : Obj} {E : Value → Shared → Prop}
    {RR : Value → Addr → Result → Shared → Prop} (R : Rd h00 mg mb A env m cm B s₁.heap) (hH : h00.get? H = none) (hL : H ≠ env.locals) (hcellH : ∀ n c, env.cells.lookup n = some c → H ≠ c) (hfH : H ∉ frs A) (hW : ∀ i o, W i o → ∀ xs n, o.data ≠ .seq xs n) (hoH : s₁.heap.get? H = some o0) (hBH : ∀ q ∈ B, q.1 ≠ H)
    (T : Iter prog w A s₁.heap.objs.size B n P St) (hf : oI.isFreed = false) (hst : St 0 oI) (hcl : ∀ n c, cl.lookup n = some c → env.cells.lookup n = some c)
    (hcell : ∀ y ∈ scope.names, y.2 ≠ .cell) (hkind : scope.kind = .function) (hx : scope.names.lookup x = some .local)
    (J : Nat → List Value → Led → Prop) (h0 : J 0 [] B) (w0 : W 0 o0)
    (turn : TurnH prog w h00 mg mb A env cm B s₁ H W scope cl x elt n P J)
    (fin : ∀ D C m₃ ys B₁ s' oW, D ≠ C → s₁.heap.get? C = none → s'.heap.Ns C m₃ → (∀ p ∈ B, p ∈ B₁) → J n ys B₁ → W n oW → s'.heap.get? H = some oW → Stp A B (hid s₁ [H]) ((D, ys) :: B₁) s' → RR (.ref D) C (.ok .next) s') :
    wpAny (model prog w) A (newList []) (fun acc s₃ => wpAny (model prog w) A (newFunctionEnv scope env.globals cl [] env.qual none .none (some env)) (fun cenv s₄ =>
      codeAny (model prog w) A (.compStart (.ListComp elt [⟨.Name x px, iter, [], 0⟩] scope pos) 0 (.ref s₁.heap.objs.size) acc { cenv with scope := relabel scope env }) (RR acc cenv.locals) s₄) E s₃) E { s₁ with heap := s₁.heap.push oI } := by
  refine wpAny_newObj_type (wpAny_newFunctionEnv hcell (by intro y hy; simp at hy) (fun h₁ hns₁ hsb₁ => ?_) hkind)
  dsimp only at hns₁ hsb₁ ⊢
  generalize hH1 : s₁.heap.push oI = H1 at hns₁ hsb₁ ⊢
  have hD : H1.objs.size = s₁.heap.objs.size + 1 := by rw [← hH1, Heap.size_push]
  generalize hH2 : H1.push { cls := .type "list", dict := none, data := .seq ([] : List Value).toArray } = H2 at hns₁ hsb₁ ⊢
  have hC : H2.objs.size = s₁.heap.objs.size + 2 := by rw [← hH2, Heap.size_push, hD]
  have hno : ∀ a, s₁.heap.objs.size ≤ a → s₁.heap.get? a = none := fun a ha => Heap.get?_none_of_le ha
  have hno' : ∀ a, s₁.heap.objs.size ≤ a → (hid s₁ [H]).heap.get? a = none := fun a ha => by
    cases q : (hid s₁ [H]).heap.get? a with
    | none => rfl
    | some o => have := of_hideAll _ q; rw [hno a ha] at this; cases this
  have ltH : H < s₁.heap.objs.size := Heap.lt_size hoH
  have cC : s₁.heap.get? H2.objs.size = none := hno _ (by rw [hC]; exact Nat.le_add_right _ _)
  have X : ∀ oW, Apart3 A (hid s₁ [H]).heap [(H, oW)] s₁.heap.objs.size H2.objs.size H1.objs.size := by
    intro oW
    refine ⟨?_, ?_, ?_, hno' _ (Nat.le_refl _), hno' _ ?_, hno' _ ?_, fun hm => ?_, fun p hp => ?_⟩
    · rw [hC]; exact Nat.ne_of_lt (Nat.lt_succ_of_lt (Nat.lt_succ_self _))
    · rw [hD]; exact Nat.ne_of_lt (Nat.lt_succ_self _)
    · rw [hC, hD]; exact Nat.ne_of_gt (Nat.lt_succ_self _)
    · rw [hC]; exact Nat.le_add_right _ _
    · rw [hD]; exact Nat.le_succ _
    · obtain ⟨o, ho⟩ := R.gl.mem hm
      exact Nat.lt_irrefl _ (Heap.lt_size ho)
    · rw [List.mem_singleton.mp hp]
      refine ⟨Nat.ne_of_lt ltH, ?_, ?_, hfH⟩
      · rw [hC]; exact Nat.ne_of_lt (Nat.lt_succ_of_lt (Nat.lt_succ_of_lt ltH))
      · rw [hD]; exact Nat.ne_of_lt (Nat.lt_succ_of_lt ltH)
  have lt : ∀ b o, s₁.heap.get? b = some o → b ≠ H2.objs.size := fun b o e q => by rw [q, cC] at e; cases e
  have old : ∀ b o, s₁.heap.get? b = some o → h₁.get? b = some o := fun b o e =>
    hsb₁.extBut b o (lt b o e) (Heap.get?_push_of_some _ (hH2 ▸ Heap.get?_push_of_some _ (hH1 ▸ Heap.get?_push_of_some _ e)))
  have L : Lp A B (hid s₁ [H]) [(H, o0)] s₁.heap.objs.size H2.objs.size H1.objs.size [] B oI (fun _ => none) { s₁ with heap := h₁, toks := s₁.toks + ([] : List (Str × Value)).length } := by
    refine ⟨⟨_, _, rfl⟩, .of_keeps fun b o e => old b o (of_hideAll _ e), (Kp.of_keeps (fr := frs A) old).has R.has, fun _ h => h, fun _ h => .inl h, fun p hp q => ?_, ?_, ?_, hns₁, fun p hp => ?_⟩
    · obtain ⟨o, ho, _⟩ := (R.has p hp).1
      rw [q, hno _ (by rw [hD]; exact Nat.le_succ _)] at ho; cases ho
    · exact hsb₁.extBut _ _ (X o0).ic (Heap.get?_push_of_some _ (hH2 ▸ Heap.get?_push_of_some _ (hH1 ▸ Heap.get?_push_size _ hf)))
    · exact Lst.mk (hsb₁.extBut _ _ (Ne.symm (X o0).cd) (Heap.get?_push_of_some _ (hH2 ▸ Heap.get?_push_size _ rfl)))
    · rw [List.mem_singleton.mp hp]; exact old _ _ hoH
  have loop := comp_loopH (elt := elt) (iter := iter) (px := px) (pos := pos) (RR := RR (.ref H1.objs.size) H2.objs.size) R hH hL hcellH hfH hW T hst X hcl hkind hx J h0 w0 L turn fun m₃ ys B₁ s' oW a b c d e g => fin _ _ m₃ ys B₁ s' oW (Ne.symm (X o0).cd) cC a b c d e g
  exact codeAny_compStart_list loop (T.self 0 _ oI _ _ L.hI hst loop)
end

section
variable {prog : Program} {w : World} {h00 : Heap} {mg mb : Str → Option Value} {A₀ : Around} {B₀ : Led} {s₀ : Shared} {env : Env} {m cm : Str → Option Value} {Z : List (Addr × Obj)} {B : Led} {s : Shared} {H : Addr} {W : Nat → Obj → Prop} {o0 : Obj}
theorem assign_compH {elt iter : PySem.Expr} {x y : Str} {px py : Pos} {scope : Scope} {cl : List (Str × Addr)} {pos spos : Pos} {n : Nat} {Q : Flow → Shared → Prop} {E : Value → Shared → Prop}
    (_F : Fm h00 mg mb A₀ B₀ s₀ env m cm ((H, o0) :: Z) B s) (hZ : H ∉ Z.map (·.1)) (hW : ∀ i o, W i o → ∀ xs n, o.data ≠ .seq xs n) (w0 : W 0 o0) (hclos : closureFor scope env = pure cl) (hsw : swapsWith (.ListComp elt [⟨.Name x px, iter, [], 0⟩] scope pos) (some (.Name y py)) spos.line env = pure true)
    (h : wpAny (model prog w) (A₀.deeper env) (eval iter env) (fun xv s₁ => ∃ (B₁ : Led) (P : Nat → Value → Prop), Fm h00 mg mb A₀ B₀ s₀ env m cm ((H, o0) :: Z) B₁ s₁ ∧ Src prog w (A₀.deeper env) B₁ xv n P s₁ ∧ ∃ (J : Nat → List Value → Led → Prop), J 0 [] B₁ ∧
      TurnH prog w h00 mg mb (A₀.deeper env) env cm B₁ s₁ H W scope cl x elt n P J ∧
      (∀ D ys B₂ s' oW, (∀ p ∈ B₁, p ∈ B₂) → J n ys B₂ → W n oW → Fm h00 mg mb A₀ B₀ s₀ env (upd m y (.ref D)) cm ((H, oW) :: Z) ((D, ys) :: B₂) s' → Q .next s')) (fun _ _ => False) s)
    (hcl : ∀ n c, cl.lookup n = some c → env.cells.lookup n = some c) (hk : env.scope.kind = .function := by rfl) (hy : env.kindOf y = some .local := by rfl) (hcell : ∀ y ∈ scope.names, y.2 ≠ .cell := by decide) (hkind : scope.kind = .function := by rfl) (hx : scope.names.lookup x = some .local := by rfl)
    (hnames : ∀ y ∈ scope.names, y.2 = .local → scope.names.lookup y.1 = some .local := by decide) (hs : ∀ x, foldedSetIterable iter env x = pure x := by intro _; rfl) :
    wpAny (model prog w) (A₀.deeper env) (exec (.Assign [.Name y py] (.ListComp elt [⟨.Name x px, iter, [], 0⟩] scope pos) spos) env) Q E s := by
  refine wpAny_noRaise ?_
  rw [exec_Assign_Name_used _ _ _ _ hsw]
  refine wpAny_bind (wpAny_standAt (wpAny_bind ?_))
  show wpAny _ (A₀.deeper env) (do let _ ← comprehension (.ListComp elt [⟨.Name x px, iter, [], 0⟩] scope pos) scope env _ (newList []) false (eval iter env) (some (assign (.Name y py) env))) _ _ s
  refine wpAny_bind (wpAny_mono (wpAny_comprehension_free (use := some (assign (.Name y py) env)) (Q := fun _ s' => Q .next s') rfl hs hclos hkind hnames
    (wpAny_mono h (fun xv s₁ h₁ => ?_) fun _ _ e => e)) (fun _ s' hq => wpAny_pure (wpAny_pure hq)) fun _ _ e => e)
  obtain ⟨B₁, P, F₁, ⟨oI, St, hf, T, hst, hit⟩, J, h0, turn, fin⟩ := h₁
  refine hit _ _ ?_
  obtain ⟨p1, p2, p3, p4⟩ := F₁.pin _ (.head _)
  refine comp_coreH (H := H) (W := W) (RR := fun acc C => compPost (model prog w) (A₀.deeper env) (fun _ _ => False) (some (assign (.Name y py) env)) (fun _ s' => Q .next s') acc C) F₁.rd (F₁.new00 p4) p2 p3 (F₁.offF (.head _)) hW p1 (F₁.offB _ (.head _)) T hf hst hcl hcell hkind hx J h0 w0 turn fun D C m₃ ys B₂ s' oW hDC hC hn hsub hJ hWn hHW z => ?_
  show wpAny _ _ (assign (.Name y py) env (.ref D)) _ _ _
  have F₂ := F₁.back hZ z hHW (hW _ _ hWn)
  obtain ⟨oC, es, ep, hoC, hdC, hrC⟩ := hn
  have F₃ := F₂.addpin' F₁ hoC hC (fun xs n q => by rw [hdC] at q; cases q)
  refine wpAny_assign_Name (F₃.st (fun s₄ F₄ => ?_) hk hy)
  refine ⟨m₃, ⟨oC, es, ep, (F₄.pin _ (.head _)).1, hdC, hrC⟩, fun h' hs' => ?_⟩
  refine fin D ys B₂ _ oW hsub hJ hWn (F₄.unpin (tk := s₄.toks) hs'.extBut fun p hp e => ?_)
  rcases List.mem_cons.mp hp with rfl | hp
  · rw [show H = C from e, hC] at p1; cases p1
  · have h1 := (F₁.pin p (.tail _ hp)).1
    rw [e, hC] at h1; cases h1
end
end Mine

end
section
open PySem PySem.W PyProof.Rows PySem.Calls
set_option Elab.async false
set_option autoImplicit false
set_option linter.unusedVariables false
set_option maxRecDepth 100000
namespace Mine
theorem bInts_byteArr {ns : List Int} (h : ∀ n ∈ ns, 0 ≤ n ∧ n < 256) : KBw.bInts (byteArr ns) = ns := by
  unfold KBw.bInts byteArr
  show (ns.map fun n => n.toNat.toUInt8).map (fun c => (c.toNat : Int)) = ns
  rw [List.map_map]
  conv => rhs; rw [← List.map_id ns]
  refine List.map_congr_left fun n hn => ?_
  obtain ⟨a, b⟩ := h n hn
  show ((n.toNat.toUInt8).toNat : Int) = n
  rw [Nat.toUInt8_eq, UInt8.toNat_ofNat']
  omega
theorem bInts_cut (b : Array UInt8) (i j : Nat) : KBw.bInts (cutB b i j) = ((KBw.bInts b).drop i).take (j - i) := by
  unfold KBw.bInts cutB
  simp [List.map_take, List.map_drop]
theorem cnt_bInts {b : Array UInt8} {p : Nat} {x : Int} (h : (KBw.bInts b)[p]? = some x) : (cnt b p : Int) = x := by
  unfold KBw.bInts at h
  rw [List.getElem?_map, Option.map_eq_some_iff] at h
  obtain ⟨c, hc, rfl⟩ := h
  unfold cnt
  rw [List.getD_eq_getElem?_getD, hc]
  rfl
theorem flat_app (cs ds : List (List Int)) : flatL (cs ++ ds) = flatL cs ++ flatL ds := by simp [flatL]
theorem flat_split {cs : List (List Int)} {i : Nat} {c : List Int} (h : cs[i]? = some c) : flatL cs = flatL (cs.take i) ++ ((c.length : Int) :: (c ++ flatL (cs.drop (i + 1)))) := by
  have h1 : cs = cs.take i ++ cs.drop i := (List.take_append_drop i cs).symm
  have h2 : cs.drop i = c :: cs.drop (i + 1) := by
    obtain ⟨hi, rfl⟩ := List.getElem?_eq_some_iff.mp h
    exact List.drop_eq_getElem_cons hi
  conv => lhs; rw [h1, flat_app, h2]
  rfl
/-- the i-th clause, as it lies among the octets -/
theorem at_clause {b : Array UInt8} {cs : List (List Int)} {tl : List Int} {i : Nat} {c : List Int} (hb : KBw.bInts b = flatL cs ++ tl) (h : cs[i]? = some c) :
    (flatL (cs.take i)).length < b.size ∧ cnt b (flatL (cs.take i)).length = c.length ∧ (flatL (cs.take (i + 1))).length = (flatL (cs.take i)).length + 1 + c.length ∧ (flatL (cs.take i)).length + 1 + c.length ≤ b.size ∧
      KBw.bInts (cutB b ((flatL (cs.take i)).length + 1) ((flatL (cs.take i)).length + 1 + c.length)) = c := by
  have hs := KBw.ints_length b
  rw [hb, flat_split h] at hs
  have hb' := hb
  rw [flat_split h] at hb'
  rw [flat_take h]
  generalize flatL (cs.take i) = pre at *
  generalize flatL (cs.drop (i + 1)) = suf at *
  simp only [List.length_append, List.length_cons] at hs
  refine ⟨by omega, ?_, by simp only [List.length_append, List.length_cons]; omega, by omega, ?_⟩
  · have : (cnt b pre.length : Int) = (c.length : Int) := cnt_bInts (by rw [hb', List.append_assoc, List.getElem?_append_right (Nat.le_refl _), Nat.sub_self]; rfl)
    omega
  · rw [bInts_cut, hb', List.append_assoc, ← List.drop_drop, List.drop_left, show pre.length + 1 + c.length - (pre.length + 1) = c.length by omega]
    simp
/-- what lies behind the clauses -/
theorem at_tail {b : Array UInt8} {cs : List (List Int)} {tl : List Int} (hb : KBw.bInts b = flatL cs ++ tl) : b.size = (flatL cs).length + tl.length ∧ ∀ x ∈ tl.head?, (cnt b (flatL cs).length : Int) = x := by
  have hs := KBw.ints_length b
  rw [hb, List.length_append] at hs
  refine ⟨hs.symm, fun x hx => cnt_bInts ?_⟩
  rw [hb, List.getElem?_append_right (Nat.le_refl _), Nat.sub_self]
  cases tl with
  | nil => cases hx
  | cons y ys => cases hx; rfl
end Mine

end
section
open PySem PySem.W PyProof.Rows PySem.Calls
set_option Elab.async false
set_option autoImplicit false
set_option linter.unusedVariables false
set_option maxRecDepth 100000
namespace Mine
/-- all that reading a stream needs -/
structure TL (h00 : Heap) (K : Frag) (mg mb : Str → Option Value) (C fChk fRead fIdx tr f6 f7 f20 : Addr) (t : Tok) : Prop where
  T : BR h00 K C fChk fRead fIdx tr (.int (-1) t)
  D6 : IsT h00 f6 6
  D7 : IsT h00 f7 7
  D20 : IsT h00 f20 20
  N5 : Nm5 mg mb fIdx
  N6 : Nm6 mg mb f6 f7
  N2 : Nm2 mg mb
  told : mg "_law_told" = some (.ref f20)
def AtPos (bb p : Nat) (o : Obj) : Prop := ∃ es n, o = dictOf es n ∧ Ent es bb p
section
variable {prog : Program} {w : World} {h00 : Heap} {mg mb : Str → Option Value} {A : Around} {B₀ : Led} {s₀ : Shared} {f : Addr} {ann : Option Addr} {pm cd doc : Value} {L : Addr} {m cm : Str → Option Value} {B : Led} {s : Shared} {Q : Flow → Shared → Prop} {E : Value → Shared → Prop} {K : Frag} {C fChk fRead fIdx tr f6 f7 f20 : Addr} {tk0 : Tok}
theorem law4a {x dx bb : Addr} {b : Array UInt8} {es : List DictEntry} {n : Nat} {sl sl' : Array (Option Value)} {cs : List (List Int)} {tl : List Int} {vd : Value} (T : TL h00 K mg mb C fChk fRead fIdx tr f6 f7 f20 tk0) (e0 : Env0 h00 mg mb) (R : Room (A.deeper (lawE ann pm cd doc L f)) 5 17) (hx : x ≠ dx) (hbb : bb ≠ dx) (he : Ent es bb 0)
    (F : Fm h00 mg mb A B₀ s₀ (lawE ann pm cd doc L f) m cm (stZ C x dx bb b es n sl sl') B s) (hcs : cm "stream" = some (.ref x)) (hcd : cm "drawn" = some vd) (hvd : kInt.list.list.rel B vd cs) (hb : KBw.bInts b = flatL cs ++ tl) (hsz : b.size ≤ 1000) (hlen : cs.length ≤ 8)
    (hQ : ∀ vc B' s' es' n', (∀ p ∈ B, p ∈ B') → kInt.list.list.rel B' vc cs → Ent es' bb (flatL cs).length → Fm h00 mg mb A B₀ s₀ (lawE ann pm cd doc L f) (upd m "clauses" vc) cm (stZ C x dx bb b es' n' sl sl') B' s' →
      wpAny (model prog w) (A.deeper (lawE ann pm cd doc L f)) (execs ((dBody (topOf 24)).drop 9) (lawE ann pm cd doc L f)) Q E s') :
    wpAny (model prog w) (A.deeper (lawE ann pm cd doc L f)) (execs ((dBody (topOf 24)).drop 8) (lawE ann pm cd doc L f)) Q E s := by
  refine wpAny_execs_cons ?_
  refine assign_compH (cl := [("stream", L + 2)]) (n := cs.length) (W := fun i o => AtPos bb (flatL (cs.take i)).length o) F (by simp [Ne.symm hx, Ne.symm hbb]) (fun i o ⟨_, _, e, _⟩ xs n q => by rw [e] at q; cases q) ⟨es, n, rfl, he⟩ (by rfl) (by rfl) ?_ ?_
  · refine F.rd.name_c (c := L + 1) (by rfl) hcd ?_
    refine ⟨B, fun i u => ∃ x, cs[i]? = some x ∧ kInt.list.rel B u x, F, Src.rel (by exact R.hh) F.rd.has hvd, fun i ys B₂ => All2 (kInt.list.rel B₂) ys (cs.take i), .nil, ?_, ?_⟩
    · rintro i v ys B₁ s₃ C' m₂ oW hi ⟨c, hc, hv⟩ hs₁ hJ ⟨es₁, n₁, rfl, he₁⟩ hd₁ hk₁ off₁ R₁
      have S₁ : Strm s₃.heap x C dx bb b := Strm.kp (Strm.hid ⟨⟨_, (F.pin (x, xObj C dx sl) (by simp)).1⟩, ⟨_, (F.pin (bb, bObj b sl') (by simp)).1⟩, hx, hbb⟩) hk₁
      have hO : Own h00 (A.deeper (lawE ann pm cd doc L f)) B₁ s₃.heap [(dx, dictOf es₁ n₁)] := fun p hp => by
        rw [List.mem_singleton.mp hp]
        exact ⟨hd₁, F.new00 (F.pin _ (.head _)).2.2.2, F.offF (p := (dx, dictOf es n)) (.head _), off₁⟩
      obtain ⟨a1, a2, a3, a4, a5⟩ := at_clause hb hc
      obtain ⟨ann20, pm20, cd20, doc20, DD20⟩ := id T.D20
      refine callF1 (h00 := h00) (.def DD20) (fun Q' hq => R₁.name_g T.told hq) (R₁.name_c (c := L + 2) (by rfl) hcs ⟨R₁.gl.stay, ?_⟩)
      refine told_meets T.T T.D6 T.D7 T.D20 T.N5 T.N6 T.N2 e0 R₁.gl R₁.has R hO S₁ he₁ (by omega) (by omega) (fun _ _ s' B' es' n' v' y hd' he' hv' => ?_) fun s' B' es' n' p' u wd y hd' he' hcase => ?_
      · have hl : ys.length ≤ sizeLine := by
          have := hJ.len; rw [List.length_take] at this; rw [sizeLine_eq]; omega
        refine ⟨hl, B', dictOf es' n', y, hd', ⟨es', n', rfl, ?_⟩, ?_⟩
        · rw [a3, ← a2]; exact he'
        · show All2 _ _ _
          rw [a2, a5] at hv'
          rw [List.take_add_one, hc]
          exact app_one (hJ.mono fun _ _ h => kInt.list.mono y.sub h) hv'
      · rcases hcase with ⟨h, _⟩ | ⟨_, h, _⟩
        · exact absurd h (Nat.ne_of_lt a1)
        · rw [a2] at h; exact absurd a4 (Nat.not_le.mpr h)
    · rintro D ys B₂ s' oW hs₂ hJ ⟨es₁, n₁, rfl, he₁⟩ F₂
      dsimp only
      rw [List.take_length] at hJ he₁
      exact hQ _ _ _ es₁ n₁ (fun p hp => .tail _ (hs₂ p hp)) ⟨D, ys, rfl, .head _, hJ.mono fun _ _ h => kInt.list.mono (fun _ h => .tail _ h) h⟩ he₁ F₂
  · exact lookup_one (by rfl)
end
end Mine

end
section
open PySem PySem.W PyProof.Rows PySem.Calls
set_option Elab.async false
set_option autoImplicit false
set_option linter.unusedVariables false
set_option maxRecDepth 100000
namespace Mine
section
variable {prog : Program} {w : World} {h00 : Heap} {mg mb : Str → Option Value} {A : Around} {B₀ : Led} {s₀ : Shared} {f : Addr} {ann : Option Addr} {pm cd doc : Value} {L : Addr} {m cm : Str → Option Value} {B : Led} {s : Shared} {Q : Flow → Shared → Prop} {E : Value → Shared → Prop} {K : Frag} {C fChk fRead fIdx tr f6 f7 f20 : Addr} {tk0 : Tok}
theorem law4b {x dx bb : Addr} {b : Array UInt8} {es : List DictEntry} {n : Nat} {sl sl' : Array (Option Value)} {cs : List (List Int)} {tl : List Int} {vc vd : Value} {wd : Str} {u : Tok} (T : TL h00 K mg mb C fChk fRead fIdx tr f6 f7 f20 tk0) (e0 : Env0 h00 mg mb) (R : Room (A.deeper (lawE ann pm cd doc L f)) 5 17) (hx : x ≠ dx) (hbb : bb ≠ dx) (he : Ent es bb (flatL cs).length)
    (F : Fm h00 mg mb A B₀ s₀ (lawE ann pm cd doc L f) m cm (stZ C x dx bb b es n sl sl') B s) (hcs : cm "stream" = some (.ref x)) (hcd : cm "drawn" = some vd) (hvd : kInt.list.list.rel B vd cs) (hmc : m "clauses" = some vc) (hvc : kInt.list.list.rel B vc cs) (hw : m "words" = some (.str wd u)) (hb : KBw.bInts b = flatL cs ++ tl) (hsz : b.size ≤ 1000)
    (htl : (tl = [] ∧ wd = wordsE) ∨ (tl.head? = some 4 ∧ tl.length ≤ 4 ∧ wd = words1 (tl.length - 1)))
    (hQ : ∀ B' s' Z', (∀ p ∈ B, p ∈ B') → Fm h00 mg mb A B₀ s₀ (lawE ann pm cd doc L f) m cm Z' B' s' →
      wpAny (model prog w) (A.deeper (lawE ann pm cd doc L f)) (execs ((dBody (topOf 24)).drop 10) (lawE ann pm cd doc L f)) Q E s') :
    wpAny (model prog w) (A.deeper (lawE ann pm cd doc L f)) (execs ((dBody (topOf 24)).drop 9) (lawE ann pm cd doc L f)) Q E s := by
  refine wpAny_execs_cons (wpAny_If (wpAny_isTrue_BoolOp (wpAny_allTrue_Or_cons (wpAny_isTrue_Compare1 ?_))))
  refine F.rd.name_l hmc (F.rd.name_c (c := L + 1) (by rfl) hcd ?_)
  refine ne_lists kInt.list F.rd.has hvc hvd (by have := R.un; simp only [kInt, Kind.list] at this ⊢; omega) false (by simp) (wpAny_truthy_bool ?_)
  rw [if_neg (by decide)]
  obtain ⟨t1, t2⟩ := at_tail hb
  have S : ∀ {es' : List DictEntry} {n' : Nat} {B' : Led} {s' : Shared}, Fm h00 mg mb A B₀ s₀ (lawE ann pm cd doc L f) m cm (stZ C x dx bb b es' n' sl sl') B' s' → Strm s'.heap x C dx bb b := fun F' => ⟨⟨_, (F'.pin (x, xObj C dx sl) (by simp)).1⟩, ⟨_, (F'.pin (bb, bObj b sl') (by simp)).1⟩, hx, hbb⟩
  obtain ⟨ann20, pm20, cd20, doc20, DD20⟩ := id T.D20
  refine wpAny_allTrue_Or_cons (wpAny_isTrue_Compare1 ?_)
  refine callF1 (h00 := h00) (.def DD20) (fun Q' hq => F.rd.name_g T.told hq) (F.rd.name_c (c := L + 2) (by rfl) hcs ⟨F.rd.gl.stay, ?_⟩)
  refine told_meets T.T T.D6 T.D7 T.D20 T.N5 T.N6 T.N2 e0 F.rd.gl F.rd.has R (F.own (Z' := [(dx, dictOf es n)]) fun p hp => by rw [List.mem_singleton.mp hp]; exact .head _) (S F) he (by omega) (by omega) (fun hlt hle s' B' es' n' v' y hd' he' hv' => ?_) fun s' B' es' n' p' u' wd' y hd' he' hcase => ?_
  · exfalso
    rcases htl with ⟨rfl, _⟩ | ⟨h4, hl, _⟩
    · simp only [List.length_nil] at t1; omega
    · have := t2 4 h4; omega
  have F₁ := F.back (by simp [Ne.symm hx, Ne.symm hbb]) y hd' (fun xs n q => by cases q)
  have hwd : wd' = wd ∧ p' = b.size := by
    rcases htl with ⟨rfl, rfl⟩ | ⟨h4, hl, rfl⟩
    · simp only [List.length_nil] at t1
      rcases hcase with ⟨_, h2, h3⟩ | ⟨h2, _⟩
      · exact ⟨h3, by omega⟩
      · omega
    · have c4 := t2 4 h4
      have c4' : cnt b (flatL cs).length = 4 := by omega
      have hpos : 1 ≤ tl.length := by cases tl with
        | nil => cases h4
        | cons _ _ => simp
      rcases hcase with ⟨h2, _⟩ | ⟨_, _, h2, h3⟩
      · omega
      · refine ⟨?_, h2⟩
        rw [h3, c4', words_eq]
        congr 1
        omega
  obtain ⟨rfl, rfl⟩ := hwd
  refine F₁.rd.name_l hw (P.ne_str (wpAny_truthy_bool ?_))
  rw [bne_self_eq_false, if_neg (by decide)]
  refine wpAny_allTrue_Or_cons (wpAny_isTrue_Compare1 ?_)
  refine MethodCall_ (F₁.rd.name_c (c := L + 2) (by rfl) hcs ?_)
  obtain ⟨ox, _, I⟩ := (S F₁).ins.inst (F₁.pin _ (.head _)).1
  refine method_fn (T.T.X.keeps F₁.rd.gl.stay) I (plainGet_of T.T.read.pg).1 (plainGet_of T.T.read.pg).2 T.T.read.fi T.T.read.ty (by obtain ⟨h₁, h₂, k₁, k₂, t, rfl⟩ := he'; rfl) ?_
  obtain ⟨qR, annR, pmR, cdR, docR, DR⟩ := id T.T.dR
  refine callWith_of (P := h00.StaysIn) rfl (Callee.def DR) (evalArgs_none ⟨F₁.rd.gl.stay, ?_⟩)
  refine wpAny_call (read_meets (z := -1) (vals := [.ref x]) T.T T.N5 e0 F₁.rd.gl F₁.rd.has (R.mono (by omega) (by omega)) (F₁.own (Z' := [(dx, dictOf es' n')]) fun p hp => by rw [List.mem_singleton.mp hp]; exact .head _) (S F₁) he' (Nat.le_refl _) (by omega) (by omega) (by omega) (fun qual ann pm cd doc => bind_read1 (T.T.dT.keeps F₁.rd.gl.stay)) fun s₂ B₂ es₂ n₂ t₂ y₂ hd₂ he₂ => ?_)
  have F₂ := F₁.back (by simp [Ne.symm hx, Ne.symm hbb]) y₂ hd₂ (fun xs n q => by cases q)
  have e1 : cutB b b.size (endR b.size b.size (-1)) = #[] := by simp [cutB, endR]
  rw [e1]
  refine Constant_bytes (ne_bytes (wpAny_truthy_bool ?_))
  rw [show ((#[] : Array UInt8).toList != ([] : List UInt8).toArray.toList) = false by rfl, if_neg (by decide)]
  refine wpAny_allTrue_Or_nil ?_
  rw [if_neg (by decide)]
  refine wpAny_execs_nil ?_
  dsimp only
  have F₃ := F₂.lt (s₂.toks + 1)
  exact hQ _ _ _ (fun p hp => y₂.sub p (y.sub p hp)) F₃
end
end Mine

end
section
open PySem PySem.W PyProof.Rows PySem.Calls
set_option Elab.async false
set_option autoImplicit false
set_option linter.unusedVariables false
set_option maxRecDepth 100000
namespace Mine
def stripL (ms : List (List Int)) (l : Int) : List (List Int) := ms.map fun m => m.filter fun s => decide (s.fdiv 2 ≠ l)
def modelsL (ds : List (List Int)) (ls : List Int) : List (List Int) := (settingsL ls).filter (holdsB ds)
def clsAt (ds : List (List Int)) (ls : List Int) (i : Nat) : List (List Int) := (ls.take i).foldl (fun cs l => struckL cs (2 * l) (2 * l + 1)) ds
def mdsAt (ds : List (List Int)) (ls : List Int) (i : Nat) : List (List Int) := (ls.take i).foldl stripL (modelsL ds ls)
/-- what the plain law must say of the clauses drawn -/
structure Plain (ds : List (List Int)) (ls : List Int) : Prop where
  four : ls.length = 4
  lens : ∀ i, i ≤ 4 → ∀ c ∈ clsAt ds ls i, c.length ≤ 31
  count : ∀ i, i < 4 → (clsAt ds ls i).length ≤ 100000
  room : ∀ i l, i < 4 → ls[i]? = some l → (clsAt ds ls i).length + (havingL (clsAt ds ls i) (2 * l)).length * (havingL (clsAt ds ls i) (2 * l + 1)).length ≤ sizeLine
  agree : ∀ i, i < 4 → ∀ st ∈ settingsL (ls.drop (i + 1)), holdsB (clsAt ds ls (i + 1)) st = decide (st ∈ mdsAt ds ls (i + 1))
  last : clsAt ds ls 4 = if mdsAt ds ls 4 ≠ [] then [] else [[]]
/-- the names of law's second part -/
structure LN2 (prog : Program) (w : World) (h00 : Heap) (mg mb : Str → Option Value) : Prop where
  e0 : Env0 h00 mg mb
  nm : Nm mg mb
  fil : Fil prog w h00 mg
  sorted : mg "sorted" = none ∧ mb "sorted" = some (.builtin "sorted")
  order : ∃ f ann pm cd doc, mg "_law_order" = some (.ref f) ∧ IsDef h00 f (fdT 19 ann pm cd doc) (dBody (topOf 19))
  settings : ∃ f ann pm cd doc, mg "_law_settings" = some (.ref f) ∧ IsDef h00 f (fdT 22 ann pm cd doc) (dBody (topOf 22))
  holds : ∃ f ann pm cd doc, mg "_law_holds" = some (.ref f) ∧ IsDef h00 f (fdT 23 ann pm cd doc) (dBody (topOf 23))
  struck : ∃ f ann pm cd doc, mg "_law_struck" = some (.ref f) ∧ IsDef h00 f (fdT 21 ann pm cd doc) (dBody (topOf 21))
theorem settings_len {ls : List Int} (h : ls.length ≤ 4) : (settingsL ls).length ≤ 16 := by
  unfold settingsL
  rw [foldS_len]
  have : 2 ^ ls.length ≤ 2 ^ 4 := Nat.pow_le_pow_right (by omega) h
  simpa using this
theorem strip_len (ms : List (List Int)) (l : Int) : (stripL ms l).length = ms.length := by simp [stripL]
theorem foldStrip_len (ls : List Int) : ∀ ms, (ls.foldl stripL ms).length = ms.length := by
  induction ls with
  | nil => intro ms; rfl
  | cons l ls ih => intro ms; rw [List.foldl_cons, ih, strip_len]
theorem mds_len {ds : List (List Int)} {ls : List Int} (h : ls.length ≤ 4) (i : Nat) : (mdsAt ds ls i).length ≤ 16 := by
  unfold mdsAt
  rw [foldStrip_len]
  exact Nat.le_trans (List.length_filter_le _ _) (settings_len h)
theorem foldStrip_in {k : Nat} (ls : List Int) : ∀ ms : List (List Int), (∀ m ∈ ms, m.length ≤ k) → ∀ m ∈ ls.foldl stripL ms, m.length ≤ k := by
  induction ls with
  | nil => intro ms h; exact h
  | cons l ls ih =>
    intro ms h
    refine ih _ fun m hm => ?_
    obtain ⟨m', hm', rfl⟩ := List.mem_map.mp hm
    exact Nat.le_trans (List.length_filter_le _ _) (h m' hm')
theorem settings_in {ls : List Int} (h : ls.length ≤ 4) : ∀ t ∈ settingsL ls, t.length ≤ 4 := fun t ht => by
  have := foldS_in ls [[]] 0 (by simp) t ht
  omega
theorem mds_in {ds : List (List Int)} {ls : List Int} (h : ls.length ≤ 4) (i : Nat) : ∀ m ∈ mdsAt ds ls i, m.length ≤ 4 :=
  foldStrip_in _ _ fun m hm => settings_in h m (List.mem_filter.mp hm).1
section
variable {prog : Program} {w : World} {h00 : Heap} {mg mb : Str → Option Value} {A : Around} {B₀ : Led} {s₀ : Shared} {f : Addr} {ann : Option Addr} {pm cd doc : Value} {L : Addr} {m cm : Str → Option Value} {Z : List (Addr × Obj)} {B : Led} {s : Shared} {Q : Flow → Shared → Prop} {E : Value → Shared → Prop}
/-- the letters and the models -/
theorem law5 {tot : Int} {vt vd vc : Value} {ds : List (List Int)} (N : LN2 prog w h00 mg mb) (R : Room (A.deeper (lawE ann pm cd doc L f)) 5 24) (F : Fm h00 mg mb A B₀ s₀ (lawE ann pm cd doc L f) m cm Z B s) (hvt : m "total" = some vt) (hvt' : kInt.rel B vt tot) (hcd : cm "drawn" = some vd) (hvd : kInt.list.list.rel B vd ds) (hmc : m "clauses" = some vc) (hvc : kInt.list.list.rel B vc ds) (hd : ∀ c ∈ ds, c.length ≤ sizeLine)
    (hQ : ∀ m' B' s' vl vm vc, m' "letters" = some vl → kInt.list.rel B' vl (orderL (tot.fdiv 4)) → m' "models" = some vm → kInt.list.list.rel B' vm (modelsL ds (orderL (tot.fdiv 4))) → m' "clauses" = some vc → kInt.list.list.rel B' vc ds → Fm h00 mg mb A B₀ s₀ (lawE ann pm cd doc L f) m' cm Z B' s' →
      wpAny (model prog w) (A.deeper (lawE ann pm cd doc L f)) (execs ((dBody (topOf 24)).drop 12) (lawE ann pm cd doc L f)) Q E s') :
    wpAny (model prog w) (A.deeper (lawE ann pm cd doc L f)) (execs ((dBody (topOf 24)).drop 10) (lawE ann pm cd doc L f)) Q E s := by
  obtain ⟨t, rfl⟩ := hvt'
  have ho : (orderL (tot.fdiv 4)).length = 4 := orderTo_len _ 4
  obtain ⟨fO, annO, pmO, cdO, docO, hfO, DO⟩ := N.order
  obtain ⟨fS, annS, pmS, cdS, docS, hfS, DS⟩ := N.settings
  obtain ⟨fH, annH, pmH, cdH, docH, hfH, DH⟩ := N.holds
  refine wpAny_execs_cons ?_
  refine F.set (P := fun B v => kInt.list.rel B v (orderL (tot.fdiv 4))) (CE.call1 F.rd (.def DO) hfO (CE.int (x := tot.fdiv 4) fun B' s' y => .div (.loc (F.rd.stp y) ⟨t, hvt⟩) .cst (by decide) (by decide)) fun v B' s' G' hb' _ hv => order_meets DO N.nm N.e0 G' hb' (R.mono (by omega) (by omega)) hv) fun v₁ B₁ s₁ hs₁ hv₁ F₁ => ?_
  dsimp only
  generalize orderL (tot.fdiv 4) = ls at *
  refine wpAny_execs_cons ?_
  refine F₁.filter (k := kInt.list) (cl := [("drawn", L + 1)]) (xs := settingsL ls) (p := holdsB ds) (by rfl) (by rfl) R.hh (by have := settings_len (ls := ls) (by omega); rw [sizeLine_eq]; omega) ((CE.call1 (P := fun B v => kInt.list.list.rel B v (settingsL ls)) F₁.rd (.def DS) hfS (CE.loc F₁.rd upd_same hv₁) fun v B' s' G' hb' _ hv => settings_meets DS N.nm N.e0 G' hb' (R.mono (by omega) (by omega)) hv (by omega)).now F₁.rd.has) ?_ (fun v₂ B₂ s₂ hs₂ hv₂ F₂ => ?_) (lookup_one (by rfl))
  · intro st v B₂ s₃ C m₂ hst hv hs₂ R₃
    refine wpAny_isTrue_value ?_
    refine ((CE.call2 (P := fun B v => v = .bool (holdsB ds st)) R₃ (.def DH) hfH (CE.cel (k := kInt.list.list) (c := L + 1) R₃ (by rfl) hcd (kInt.list.list.mono (fun p hp => hs₂ p (hs₁ p hp)) hvd)) (CE.loc (k := kInt.list) R₃ upd_same hv) (fun _ _ _ hs h => kInt.list.list.mono hs h) fun u t B' s' G' hb' hs' hu ht => holds_meets DH N.e0 G' hb' (R.mono (by omega) (by omega)) hu ht hd).now R₃.has).use fun v' B' s' y hv' => ?_
    subst hv'
    exact wpAny_truthy_bool ⟨B', y, rfl⟩
  · dsimp only
    exact hQ _ B₂ s₂ v₁ v₂ vc (upd_get upd_same) (kInt.list.mono hs₂ hv₁) upd_same hv₂ (upd_get (upd_get hmc)) (kInt.list.list.mono (fun p hp => hs₂ p (hs₁ p hp)) hvc) F₂
end
end Mine

end
section
open PySem PySem.W PyProof.Rows PySem.Calls
set_option Elab.async false
set_option autoImplicit false
set_option linter.unusedVariables false
set_option maxRecDepth 100000
namespace Mine
theorem cls_succ {ds : List (List Int)} {ls : List Int} {i : Nat} {l : Int} (h : ls[i]? = some l) : clsAt ds ls (i + 1) = struckL (clsAt ds ls i) (2 * l) (2 * l + 1) := by
  unfold clsAt; rw [List.take_add_one, h, List.foldl_append]; rfl
theorem mds_succ {ds : List (List Int)} {ls : List Int} {i : Nat} {l : Int} (h : ls[i]? = some l) : mdsAt ds ls (i + 1) = stripL (mdsAt ds ls i) l := by
  unfold mdsAt; rw [List.take_add_one, h, List.foldl_append]; rfl
section
variable {prog : Program} {w : World} {h00 : Heap} {mg mb : Str → Option Value} {A₀ : Around} {B₀ : Led} {s₀ : Shared} {env : Env} {m cm : Str → Option Value} {Z : List (Addr × Obj)} {B : Led} {s : Shared}
theorem For_P {x : Str} {px pos : Pos} {iter : PySem.Expr} {body : List Stmt} {n : Nat} {Q : Flow → Shared → Prop} {E : Value → Shared → Prop}
    (_F : Fm h00 mg mb A₀ B₀ s₀ env m cm Z B s) (hiter : wpAny (model prog w) (A₀.deeper env) (eval iter env) (fun xv s₁ => ∃ (B₁ : Led) (P : Nat → Value → Prop), Fm h00 mg mb A₀ B₀ s₀ env m cm Z B₁ s₁ ∧ Src prog w (A₀.deeper env) B₁ xv n P s₁ ∧ ∃ (J : Nat → (Str → Option Value) → (Str → Option Value) → Led → Prop), J 0 m cm B₁ ∧
      (∀ i v m₁ cm₁ Z₁ B₂ s₂, i < n → P i v → (∀ p ∈ B₁, p ∈ B₂) → J i m₁ cm₁ B₂ → Fm h00 mg mb A₀ B₀ s₀ env (upd m₁ x v) cm₁ Z₁ B₂ s₂ → (∀ p ∈ Z, p ∈ Z₁) →
        wpAny (model prog w) (A₀.deeper env) (execs body env) (TurnEnd h00 mg mb A₀ B₀ s₀ env Z₁ B₂ (J (i + 1)) Q) (fun _ _ => False) s₂) ∧
      (∀ m₁ cm₁ B₂ s₂, (∀ p ∈ B₁, p ∈ B₂) → J n m₁ cm₁ B₂ → Fm h00 mg mb A₀ B₀ s₀ env m₁ cm₁ Z B₂ s₂ → Q .next s₂)) (fun _ _ => False) s)
    (hk : env.scope.kind = .function := by rfl) (hx : env.kindOf x = some .local := by rfl) (hs : ∀ x, foldedSetIterable iter env x = pure x := by intro _; rfl) :
    wpAny (model prog w) (A₀.deeper env) (exec (.For (.Name x px) iter body [] pos) env) Q E s := by
  refine wpAny_noRaise (wpAny_For (wpAny_mono hiter (fun xv s₁ h₁ => ?_) fun _ _ q => q.elim) hs)
  obtain ⟨B₁, P, F₁, ⟨oI, St, hf, T, hst, hit⟩, J, h0, turn, done⟩ := h₁
  refine hit _ _ ?_
  refine for_it T hst (F₁.push hf) (fun p hp e => ?_) J h0 turn done hk hx
  have := Heap.lt_size (F₁.pin p hp).1
  rw [e] at this
  exact Nat.lt_irrefl _ this
end
section
variable {prog : Program} {w : World} {h00 : Heap} {mg mb : Str → Option Value} {A : Around} {B₀ : Led} {s₀ : Shared} {f : Addr} {ann : Option Addr} {pm cd doc : Value} {L : Addr} {m cm : Str → Option Value} {Z : List (Addr × Obj)} {B : Led} {s : Shared} {Q : Flow → Shared → Prop} {E : Value → Shared → Prop}
theorem law6 {vl vm vc : Value} {ds : List (List Int)} {ls : List Int} (P : Plain ds ls) (N : LN2 prog w h00 mg mb) (R : Room (A.deeper (lawE ann pm cd doc L f)) 5 24) (F : Fm h00 mg mb A B₀ s₀ (lawE ann pm cd doc L f) m cm Z B s) (hml : m "letters" = some vl) (hvl : kInt.list.rel B vl ls) (hmm : m "models" = some vm) (hvm : kInt.list.list.rel B vm (modelsL ds ls)) (hmc : m "clauses" = some vc) (hvc : kInt.list.list.rel B vc ds)
    (hQ : ∀ m' cm' Z' B' s', Fm h00 mg mb A B₀ s₀ (lawE ann pm cd doc L f) m' cm' Z' B' s' → Q (.ret (.bool true)) s') :
    wpAny (model prog w) (A.deeper (lawE ann pm cd doc L f)) (execs ((dBody (topOf 24)).drop 12) (lawE ann pm cd doc L f)) Q E s := by
  have h4 := P.four
  have hsl : sizeLine = 16777216 := sizeLine_eq
  obtain ⟨fS, annS, pmS, cdS, docS, hfS, DS⟩ := N.settings
  obtain ⟨fH, annH, pmH, cdH, docH, hfH, DH⟩ := N.holds
  obtain ⟨fK, annK, pmK, cdK, docK, hfK, DK⟩ := N.struck
  refine wpAny_execs_cons ?_
  refine For_ F (n := 4) (P := fun i v => ∃ t, v = .int (i : Int) t) ?_
  refine callT1 (fun Q' hq => F.rd.name_b N.nm.range.1 N.nm.range.2 hq) ?_
  refine wpAny_Constant_int ?_
  refine range_ (n := 4) R.hh (F.lt _).rd.has (by decide) fun xv s₁ y hS => ⟨B, (F.lt _).go y, hS, ?_⟩
  refine ⟨fun i m₁ _ B₁ => (∃ v, m₁ "clauses" = some v ∧ kInt.list.list.rel B₁ v (clsAt ds ls i)) ∧ (∃ v, m₁ "models" = some v ∧ kInt.list.list.rel B₁ v (mdsAt ds ls i)) ∧ m₁ "letters" = some vl, ⟨⟨vc, hmc, hvc⟩, ⟨vm, hmm, hvm⟩, hml⟩, ?_, ?_⟩
  · rintro i v m₁ cm₁ Z₁ B₁ s₂ hi ⟨t, rfl⟩ hs₁ ⟨⟨v₁, g1, g1'⟩, ⟨v₂, g2, g2'⟩, g3⟩ F₁ hZ
    obtain ⟨l, hl⟩ : ∃ l, ls[i]? = some l := ⟨ls[i]'(by omega), List.getElem?_eq_getElem (by omega)⟩
    have hvl₁ := kInt.list.mono hs₁ hvl
    refine wpAny_execs_cons (wpAny_Assign_Name ?_)
    refine Subscript_ (F₁.rd.name_l (upd_get g3) (F₁.rd.name_l upd_same ?_))
    refine item_ kInt F₁.rd.has hvl₁ hl (by omega) fun v' hv' => ?_
    obtain ⟨t', rfl⟩ := hv'
    refine F₁.stc (c := L + 3) (by rfl) fun s₃ F₂ => ?_
    dsimp only
    have hlen := P.lens i (by omega)
    have hroom := P.room i l hi hl
    refine wpAny_execs_cons ?_
    refine F₂.set (P := fun B v => kInt.list.list.rel B v (clsAt ds ls (i + 1))) (CE.call3 (P₁ := fun B v => kInt.list.list.rel B v (clsAt ds ls i)) (P₂ := fun B v => kInt.rel B v (2 * l)) (P₃ := fun B v => kInt.rel B v (2 * l + 1)) F₂.rd (.def DK) hfK (CE.loc F₂.rd (upd_get g1) g1')
      (CE.int fun B' s' y => .mul .cst (.cel (c := L + 3) (F₂.rd.stp y) (by rfl) ⟨t', upd_same⟩)) (CE.int fun B' s' y => .add (.mul .cst (.cel (c := L + 3) (F₂.rd.stp y) (by rfl) ⟨t', upd_same⟩)) .cst) (fun _ _ _ hs h => kInt.list.list.mono hs h) (fun _ _ _ hs h => kInt.mono hs h)
      fun a b c B' s' G' hb' hs' ha hb hc => ?_) fun v₃ B₂ s₄ hs₂ hv₃ F₃ => ?_
    · rw [cls_succ hl]
      exact struck_meets DK N.fil N.sorted N.e0 G' hb' (R.mono (by omega) (by omega)) ha hb hc hlen (P.count i hi) hroom
    dsimp only
    refine wpAny_execs_cons ?_
    refine F₃.map (k := kInt.list) (k' := kInt.list) (cl := [("letter", L + 3)]) (xs := mdsAt ds ls i) (g := fun m => m.filter fun s => decide (s.fdiv 2 ≠ l)) (by rfl) (by rfl) R.hh (by have := mds_len (ds := ds) (ls := ls) (by omega) i; omega) ((CE.loc F₃.rd (upd_get (upd_get g2)) (kInt.list.list.mono hs₂ g2')).now F₃.rd.has) ?_ (fun v₄ B₃ s₅ hs₃ hv₄ F₄ => ?_) (lookup_one (by rfl))
    · intro md v B₂ s₃ C m₂ hmd hv hs₂ R₃
      have lmd := mds_in (ds := ds) (ls := ls) (by omega) i md hmd
      refine con_filter (k := kInt) (cl := [("letter", L + 3)]) (xs := md) (p := fun s => decide (s.fdiv 2 ≠ l)) R₃ (by rfl) R.hh (by omega) ((CE.loc R₃ upd_same hv).now R₃.has) ?_ (fun _ _ h => h)
      intro sg v B₄ s₄ C' m₃ hsg hvs hs₄ R₄
      obtain ⟨u, rfl⟩ := hvs
      refine wpAny_isTrue_Compare1 ?_
      refine (IE.div (.loc R₄ ⟨u, upd_same⟩) .cst (by decide) (by decide)).use fun t₅ tk₅ => ?_
      refine Rd.name_c (s := { s₄ with toks := tk₅ }) R₄ (c := L + 3) (by rfl) upd_same (ne_int (wpAny_truthy_bool ?_))
      exact ⟨B₄, .keeps R₄.has fun _ _ e => e, by show (sg.fdiv 2 != l) = decide _; rw [Bool.eq_iff_iff]; simp⟩
    dsimp only
    have hv₄' : kInt.list.list.rel B₃ v₄ (mdsAt ds ls (i + 1)) := by rw [mds_succ hl]; exact hv₄
    have hls : (ls.drop (i + 1)).length ≤ 4 := by rw [List.length_drop]; omega
    refine wpAny_execs_cons ?_
    have hSl := settings_len hls
    refine For_P F₄ (n := (settingsL (ls.drop (i + 1))).length) ?_
    refine ((CE.call1 (P := fun B v => kInt.list.list.rel B v (settingsL (ls.drop (i + 1)))) F₄.rd (.def DS) hfS (CE.from' (k := kInt) (i := i + 1) (CE.loc F₄.rd (upd_get (upd_get (upd_get g3))) (kInt.list.mono (fun p hp => hs₃ p (hs₂ p hp)) hvl₁)) (CE.int (x := ((i + 1 : Nat) : Int)) fun B' s' y => .to (.add (.loc (F₄.rd.stp y) ⟨t, upd_get (upd_get upd_same)⟩) .cst) (by omega)) (by omega)) fun v B' s' G' hb' _ hv => settings_meets DS N.nm N.e0 G' hb' (R.mono (by omega) (by omega)) hv hls).now F₄.rd.has).use fun xv B₄ s₆ y₆ hxv => ?_
    have F₅ := F₄.go y₆
    refine ⟨B₄, fun j u => ∃ x, (settingsL (ls.drop (i + 1)))[j]? = some x ∧ kInt.list.rel B₄ u x, F₅, Src.rel (by exact R.hh) F₅.rd.has hxv, fun j m₂ _ B₅ => (∃ v, m₂ "clauses" = some v ∧ kInt.list.list.rel B₅ v (clsAt ds ls (i + 1))) ∧ (∃ v, m₂ "models" = some v ∧ kInt.list.list.rel B₅ v (mdsAt ds ls (i + 1))) ∧ m₂ "letters" = some vl, ⟨⟨v₃, upd_get upd_same, kInt.list.list.mono (fun p hp => y₆.sub p (hs₃ p hp)) hv₃⟩, ⟨v₄, upd_same, kInt.list.list.mono y₆.sub hv₄'⟩, upd_get (upd_get (upd_get g3))⟩, ?_, ?_⟩
    · rintro j u m₂ cm₂ Z₂ B₅ s₇ hj ⟨st, hst, hu⟩ hs₅ ⟨⟨a₁, k1, k1'⟩, ⟨a₂, k2, k2'⟩, k3⟩ F₆ hZ₂
      have hag := P.agree i hi st (List.mem_of_getElem? hst)
      have lcl := P.lens (i + 1) (by omega)
      have hu₅ := kInt.list.mono hs₅ hu
      refine wpAny_execs_cons (wpAny_If (wpAny_isTrue_Compare1 ?_))
      refine ((CE.call2 (P := fun B v => v = .bool (holdsB (clsAt ds ls (i + 1)) st)) F₆.rd (.def DH) hfH (CE.loc (k := kInt.list.list) F₆.rd (upd_get k1) k1') (CE.loc (k := kInt.list) F₆.rd upd_same hu₅) (fun _ _ _ hs h => kInt.list.list.mono hs h) fun u t B' s' G' hb' hs' hu ht => holds_meets DH N.e0 G' hb' (R.mono (by omega) (by omega)) hu ht fun c hc => by have := lcl c hc; omega).now F₆.rd.has).use fun v' B₆ s₈ y₈ hv' => ?_
      subst hv'
      have F₇ := F₆.go y₈
      refine wpAny_Compare1 ?_
      refine F₇.rd.name_l upd_same (F₇.rd.name_l (upd_get k2) ?_)
      refine in_list kInt.list F₇.rd.has (kInt.list.mono y₈.sub hu₅) (kInt.list.list.mono y₈.sub k2') (by have := R.un; simp only [kInt, Kind.list] at this ⊢; omega) (decide (st ∈ mdsAt ds ls (i + 1))) decide_eq_true_iff ?_
      refine ne_bool (wpAny_truthy_bool ?_)
      rw [hag, bne_self_eq_false, if_neg (by decide)]
      refine wpAny_execs_nil ?_
      dsimp only
      refine wpAny_execs_nil ?_
      exact ⟨_, _, B₆, y₈.sub, ⟨⟨a₁, upd_get k1, kInt.list.list.mono y₈.sub k1'⟩, ⟨a₂, upd_get k2, kInt.list.list.mono y₈.sub k2'⟩, upd_get k3⟩, F₇⟩
    · rintro m₂ cm₂ B₅ s₇ hs₅ ⟨⟨a₁, k1, k1'⟩, ⟨a₂, k2, k2'⟩, k3⟩ F₆
      dsimp only
      refine wpAny_execs_nil ?_
      exact ⟨_, _, B₅, fun p hp => hs₅ p (y₆.sub p (hs₃ p (hs₂ p hp))), ⟨⟨a₁, k1, k1'⟩, ⟨a₂, k2, k2'⟩, k3⟩, F₆⟩
  · rintro m₁ cm₁ B₁ s₂ hs₁ ⟨⟨v₁, g1, g1'⟩, ⟨v₂, g2, g2'⟩, g3⟩ F₁
    dsimp only
    refine wpAny_execs_cons (wpAny_Return_some (wpAny_Compare1 ?_))
    refine F₁.rd.name_l g1 (wpAny_IfExp (wpAny_isTrue_Compare1 ?_))
    refine F₁.rd.name_l g2 ?_
    refine ((CE.nil (k := kInt.list)).now F₁.rd.has).use fun v₃ B₃ s₃ y₃ hv₃ => ?_
    have F₃ := F₁.go y₃
    refine ne_lists kInt.list F₃.rd.has (kInt.list.list.mono y₃.sub g2') hv₃ (by have := R.un; simp only [kInt, Kind.list] at this ⊢; omega) (decide (mdsAt ds ls 4 ≠ [])) decide_eq_true_iff (wpAny_truthy_bool ?_)
    have fin : ∀ v B₄ s₄, Stp (A.deeper (lawE ann pm cd doc L f)) B₃ s₃ B₄ s₄ → kInt.list.list.rel B₄ v (clsAt ds ls 4) → wpAny (model prog w) (A.deeper (lawE ann pm cd doc L f)) (compareOp .Eq v₁ v) (fun v s' => Q (.ret v) s') E s₄ := fun v B₄ s₄ y₄ hv => by
      have F₄ := F₃.go y₄
      refine eq_lists kInt.list F₄.rd.has (kInt.list.list.mono (fun p hp => y₄.sub p (y₃.sub p hp)) g1') hv (by have := R.un; simp only [kInt, Kind.list] at this ⊢; omega) true (by simp) ?_
      exact hQ _ _ _ _ _ F₄
    by_cases hm : mdsAt ds ls 4 = []
    · rw [decide_eq_false (by simpa using hm), if_neg (by decide)]
      refine ((CE.one (k := kInt.list) (CE.nil (k := kInt))).now F₃.rd.has).use fun v₄ B₄ s₄ y₄ hv₄ => fin _ _ _ y₄ ?_
      rw [P.last, if_neg (by simpa using hm)]
      exact hv₄
    · rw [decide_eq_true (by simpa using hm), if_pos rfl]
      refine ((CE.nil (k := kInt.list)).now F₃.rd.has).use fun v₄ B₄ s₄ y₄ hv₄ => fin _ _ _ y₄ ?_
      rw [P.last, if_pos hm]
      exact hv₄
end
end Mine

end
section
open PySem PySem.W PyProof.Rows PySem.Calls
set_option Elab.async false
set_option autoImplicit false
set_option linter.unusedVariables false
set_option maxRecDepth 100000
namespace Mine
theorem figL_in {c l : Nat} (hl : l < 4) : ∀ x ∈ figL c l, x = 2 * (l : Int) ∨ x = 2 * (l : Int) + 1 := fun x hx => by
  unfold figL at hx
  have h3 := Nat.mod_lt (c / 3 ^ l) (show 0 < 3 by decide)
  generalize c / 3 ^ l % 3 = k at hx h3
  split at hx
  · cases hx
  · rw [List.mem_singleton.mp hx]; omega
theorem clauseTo_in {c : Nat} : ∀ {i : Nat}, i ≤ 4 → ∀ x ∈ clauseTo c i, 0 ≤ x ∧ x < 2 * (i : Int)
  | 0, _, x, hx => by cases hx
  | i + 1, hi, x, hx => by
    rcases List.mem_append.mp hx with hx | hx
    · have := clauseTo_in (c := c) (i := i) (by omega) x hx; omega
    · have := figL_in (by omega) x hx; omega
theorem clauseL_in {c : Nat} : ∀ x ∈ clauseL c, 0 ≤ x ∧ x < 8 := fun x hx => by have := clauseTo_in (Nat.le_refl 4) x hx; omega
theorem drawn_len (xs : List Int) : (drawnL xs).length ≤ 8 ∧ ∀ c ∈ drawnL xs, c.length ≤ 4 := by
  refine ⟨by rw [drawnL, List.length_map]; exact numsL_len xs, fun c hc => ?_⟩
  obtain ⟨n, _, rfl⟩ := List.mem_map.mp hc
  exact clauseTo_len _ 4
theorem tail_in (xs : List Int) : ∀ x ∈ tailL xs, 0 ≤ x ∧ x < 256 := fun x hx => by
  have := List.mem_of_mem_take hx
  simp only [List.mem_cons, List.not_mem_nil, or_false] at this
  omega
theorem oct_in (xs : List Int) : ∀ x ∈ octL xs, 0 ≤ x ∧ x < 256 := fun x hx => by
  rcases List.mem_append.mp hx with hx | hx
  · obtain ⟨c, hc, hx⟩ := List.mem_flatMap.mp hx
    have h4 := (drawn_len xs).2 c hc
    rcases List.mem_cons.mp hx with rfl | hx
    · omega
    · obtain ⟨n, _, rfl⟩ := List.mem_map.mp hc
      have := clauseL_in x hx; omega
  · exact tail_in xs x hx
theorem tail_len (xs : List Int) : (tailL xs).length ≤ 3 := by simp only [tailL, List.length_take, List.length_cons, List.length_nil]; omega
theorem oct_len (xs : List Int) : (octL xs).length ≤ 43 := by
  have h1 := drawn_len xs
  have h2 := flat_len h1.2
  have h3 := tail_len xs
  show (flatL (drawnL xs) ++ tailL xs).length ≤ _
  rw [List.length_append]; omega
theorem tail_words (xs : List Int) : (tailL xs = [] ∧ wordsL xs = wordsE) ∨ ((tailL xs).head? = some 4 ∧ (tailL xs).length ≤ 4 ∧ wordsL xs = words1 ((tailL xs).length - 1)) := by
  by_cases h : tailL xs = []
  · exact .inl ⟨h, by rw [wordsL, if_pos h]⟩
  · refine .inr ⟨?_, by have := tail_len xs; omega, by rw [wordsL, if_neg h]⟩
    unfold tailL at h ⊢
    cases hk : ((totL xs).fmod 4).toNat with
    | zero => rw [hk] at h; exact absurd rfl h
    | succ k => rfl
section
variable {prog : Program} {w : World} {h00 : Heap} {mg mb : Str → Option Value} {A : Around} {s : Shared} {f : Addr} {K : Frag} {C sm fNew fInit td fChk fRead fIdx tr f6 f7 f20 : Addr} {tk0 : Tok}
theorem law_meets {l : Addr} {vs : List Value} {xs : List Int} {Q E : Value → Shared → Prop} (D : IsT h00 f 24) (N1 : LN prog w h00 mg mb) (N2 : LN2 prog w h00 mg mb) (T : BF h00 K C sm fNew fInit) (TI : BI h00 K C fInit td) (N3 : Nm3 mg mb C) (N4 : Nm4 mg mb) (hkeep : keepIn K (.ref C) = true) (TS : TL h00 K mg mb C fChk fRead fIdx tr f6 f7 f20 tk0)
    (G : Gl h00 A s.heap) (Rm : Room A 6 27) (hl : s.heap.IsList l vs.toArray) (hi : IntsAre vs xs) (hsz : xs.length ≤ 63) (P : Plain (drawnL xs) (orderL ((totL xs).fdiv 4)))
    (hQ : ∀ B' s', Stp A [] s B' s' → Q (.bool true) s') :
    wpC (model prog w) A (call (.ref f) [.ref l]) Q E s := by
  obtain ⟨ann, pm, cd, doc, D⟩ := D
  refine wpC_call (call_codeC (mg := mg) (mb := mb) (B := []) (binds := [("script", .ref l)]) [] N1.e0 G (fun _ h => nomatch h) (fun _ h => nomatch h) D (by have := Rm.dp; omega) (wpAny_of_eq (a := ([("script", Value.ref l)] : List (Str × Value))) (by with_unfolding_all rfl) ⟨rfl, rfl⟩) ?_ fun s₁ L hL F => ?_)
  · intro y hy
    rcases List.mem_singleton.mp hy with rfl
    exact .inl (by rfl)
  have hm : (bindL (callEnvC (fdT 24 ann pm cd doc) L f).kindOf [("script", .ref l)] fun _ => none) "script" = some (.ref l) := by rfl
  generalize (bindL (callEnvC (fdT 24 ann pm cd doc) L f).kindOf [("script", .ref l)] fun _ => none) = m at F hm
  generalize (bindC (callEnvC (fdT 24 ann pm cd doc) L f).kindOf [("script", .ref l)] fun _ => none) = cm at F
  have R' : Room (A.deeper (lawE ann pm cd doc L f)) 5 24 := Rm.deeper _
  have dl := drawn_len xs
  refine law1 N1 (R'.mono (by omega) (by omega)) F hm hl hi hsz fun m₁ B₁ s₂ hs₁ vt vd g1 hvt hvd F₁ => ?_
  refine law2 N1 (R'.mono (by omega) (by omega)) F₁ g1 hvt hvd dl fun m₂ B₂ s₃ hs₂ vo u k1 k2 k3 hvo F₂ => ?_
  have hvd₂ := kInt.list.list.mono hs₂ hvd
  refine law3 T TI N3 N4 hkeep (R'.mono (by omega) (by omega)) F₂ k3 hvo (oct_in xs) (by have := oct_len xs; omega) fun s₄ x dx bb es n sl sl' hx hbb hxb he F₃ => ?_
  have hb : KBw.bInts (byteArr (octL xs)) = flatL (drawnL xs) ++ tailL xs := bInts_byteArr (oct_in xs)
  have hbs : (byteArr (octL xs)).size ≤ 1000 := by rw [byteArr_size]; have := oct_len xs; omega
  have cd₃ : (upd (upd cm "drawn" vd) "stream" (.ref x)) "drawn" = some vd := upd_get upd_same
  refine law4a TS N1.e0 (R'.mono (by omega) (by omega)) hx hbb he F₃ upd_same cd₃ hvd₂ hb hbs dl.1 fun vc B₃ s₅ es₁ n₁ hs₃ hvc he₁ F₄ => ?_
  refine law4b TS N1.e0 (R'.mono (by omega) (by omega)) hx hbb he₁ F₄ upd_same cd₃ (kInt.list.list.mono hs₃ hvd₂) upd_same hvc (upd_get k2) hb hbs (tail_words xs) fun B₄ s₆ Z' hs₄ F₅ => ?_
  refine law5 N2 R' F₅ (upd_get k1) (kInt.mono hs₄ (kInt.mono hs₃ (kInt.mono hs₂ hvt))) cd₃ (kInt.list.list.mono hs₄ (kInt.list.list.mono hs₃ hvd₂)) upd_same (kInt.list.list.mono hs₄ hvc) (fun c hc => by have := dl.2 c hc; rw [sizeLine_eq]; omega) fun m₃ B₅ s₇ vl vm vc' j1 hvl j2 hvm j3 hvc' F₆ => ?_
  refine law6 P N2 R' F₆ j1 hvl j2 hvm j3 hvc' fun m' cm' Z'' B' s' F' => ?_
  exact hQ _ _ F'.stp
end
end Mine

end
section
open PySem PySem.W PyProof.Rows PySem.Calls
set_option Elab.async false
set_option autoImplicit false
set_option linter.unusedVariables false
namespace Mine
/-! the plain law -/
def IsSet : List Int → List Int → Prop
  | [], [] => True
  | l :: ls, x :: t => (x = 2 * l ∨ x = 2 * l + 1) ∧ IsSet ls t
  | _, _ => False
theorem IsSet.len : ∀ {ls t : List Int}, IsSet ls t → ls.length = t.length
  | [], [], _ => rfl
  | _ :: _, _ :: _, h => by simp [h.2.len]
theorem isSet_app : ∀ {ls ms t u : List Int}, IsSet ls t → IsSet ms u → IsSet (ls ++ ms) (t ++ u)
  | [], _, [], _, _, h => h
  | _ :: _, _, _ :: _, _, h, k => ⟨h.1, isSet_app h.2 k⟩
theorem isSet_split : ∀ {ls ms t : List Int}, IsSet (ls ++ ms) t → ∃ p q, t = p ++ q ∧ IsSet ls p ∧ IsSet ms q
  | [], _, t, h => ⟨[], t, rfl, trivial, h⟩
  | l :: ls, ms, x :: t, h => by
    obtain ⟨p, q, rfl, hp, hq⟩ := isSet_split h.2
    exact ⟨x :: p, q, rfl, ⟨h.1, hp⟩, hq⟩
theorem mem_stepS {S : List (List Int)} {l : Int} {t : List Int} : t ∈ stepS S l ↔ ∃ r ∈ S, ∃ x, (x = 2 * l ∨ x = 2 * l + 1) ∧ t = r ++ [x] := by
  unfold stepS
  rw [List.mem_flatMap]
  constructor
  · rintro ⟨r, hr, ht⟩
    simp only [List.mem_cons, List.not_mem_nil, or_false] at ht
    rcases ht with rfl | rfl
    · exact ⟨r, hr, 2 * l, .inl rfl, by simp⟩
    · exact ⟨r, hr, 2 * l + 1, .inr rfl, by simp⟩
  · rintro ⟨r, hr, x, hx, rfl⟩
    refine ⟨r, hr, ?_⟩
    rcases hx with rfl | rfl <;> simp
theorem mem_foldS : ∀ {ls : List Int} {S : List (List Int)} {t : List Int}, t ∈ ls.foldl stepS S ↔ ∃ p ∈ S, ∃ q, IsSet ls q ∧ t = p ++ q
  | [], S, t => by
    constructor
    · intro h; exact ⟨t, h, [], trivial, by simp⟩
    · rintro ⟨p, hp, q, hq, rfl⟩
      cases q with
      | nil => simpa using hp
      | cons _ _ => exact hq.elim
  | l :: ls, S, t => by
    rw [List.foldl_cons, mem_foldS]
    constructor
    · rintro ⟨p, hp, q, hq, rfl⟩
      obtain ⟨r, hr, x, hx, rfl⟩ := mem_stepS.mp hp
      exact ⟨r, hr, x :: q, ⟨hx, hq⟩, by simp⟩
    · rintro ⟨p, hp, q, hq, rfl⟩
      cases q with
      | nil => exact hq.elim
      | cons x q => exact ⟨p ++ [x], mem_stepS.mpr ⟨p, hp, x, hq.1, rfl⟩, q, hq.2, by simp⟩
theorem mem_settings {ls t : List Int} : t ∈ settingsL ls ↔ IsSet ls t := by
  unfold settingsL
  rw [mem_foldS]
  constructor
  · rintro ⟨p, hp, q, hq, rfl⟩
    rw [List.mem_singleton.mp hp]; exact hq
  · intro h; exact ⟨[], .head _, t, h, rfl⟩
/-- a sign of a setting is of one of its letters -/
theorem isSet_mem : ∀ {ls t : List Int}, IsSet ls t → ∀ x ∈ t, ∃ l ∈ ls, x = 2 * l ∨ x = 2 * l + 1
  | [], [], _, x, hx => by cases hx
  | l :: ls, y :: t, h, x, hx => by
    rcases List.mem_cons.mp hx with rfl | hx
    · exact ⟨l, .head _, h.1⟩
    · obtain ⟨l', h', e⟩ := isSet_mem h.2 x hx
      exact ⟨l', .tail _ h', e⟩
/-- each letter has a sign in a setting -/
theorem isSet_has : ∀ {ls t : List Int}, IsSet ls t → ∀ l ∈ ls, 2 * l ∈ t ∨ 2 * l + 1 ∈ t
  | [], _, _, l, hl => by cases hl
  | k :: ls, y :: t, h, l, hl => by
    rcases List.mem_cons.mp hl with rfl | hl
    · rcases h.1 with rfl | rfl
      · exact .inl (.head _)
      · exact .inr (.head _)
    · exact (isSet_has h.2 l hl).imp (.tail _) (.tail _)
theorem holds_iff {cs : List (List Int)} {st : List Int} : holdsB cs st = true ↔ ∀ c ∈ cs, ∃ x ∈ c, x ∈ st := by
  unfold holdsB
  rw [List.all_eq_true]
  constructor
  · intro h c hc
    obtain ⟨x, hx, e⟩ := List.any_eq_true.mp (h c hc)
    exact ⟨x, hx, of_decide_eq_true e⟩
  · intro h c hc
    obtain ⟨x, hx, e⟩ := h c hc
    exact List.any_eq_true.mpr ⟨x, hx, decide_eq_true e⟩
/-! striking a letter -/
theorem mem_without {α : Type} [DecidableEq α] {xs ys : List α} {x : α} : x ∈ without xs ys ↔ x ∈ xs ∧ x ∉ ys := by
  unfold without; rw [List.mem_filter, decide_eq_true_eq]
theorem mem_made {one other : List Int} {y n x : Int} : x ∈ madeL one other y n ↔ (x ∈ one ∨ x ∈ other) ∧ x ≠ y ∧ x ≠ n := by
  unfold madeL
  rw [(msort_perm _).mem_iff, mem_without, List.mem_append, mem_without]
  simp only [List.mem_cons, List.not_mem_nil, or_false, not_or]
  constructor
  · rintro ⟨h | h, hne⟩
    · exact ⟨.inl h, hne⟩
    · exact ⟨.inr h.1, hne⟩
  · rintro ⟨h, hne⟩
    by_cases ho : x ∈ one
    · exact ⟨.inl ho, hne⟩
    · exact ⟨.inr ⟨h.resolve_left ho, ho⟩, hne⟩
def negS (s : Int) : Int := s + 1 - s.fmod 2 * 2
theorem neg_yes (l : Int) : negS (2 * l) = 2 * l + 1 := by
  have : (2 * l).fmod 2 = 0 := by rw [Int.fmod_eq_emod_of_nonneg _ (by decide)]; omega
  unfold negS; omega
theorem neg_no (l : Int) : negS (2 * l + 1) = 2 * l := by
  have : (2 * l + 1).fmod 2 = 1 := by rw [Int.fmod_eq_emod_of_nonneg _ (by decide)]; omega
  unfold negS; omega
/-- no sign beside its contrary -/
def Fine (c : List Int) : Prop := ∀ s ∈ c, negS s ∉ c
theorem turned_iff {made : List Int} : without (turnedL made) made = turnedL made ↔ Fine made := by
  unfold without turnedL Fine
  rw [List.filter_eq_self]
  simp only [decide_eq_true_eq, List.mem_map]
  constructor
  · intro h s hs; exact h _ ⟨s, hs, rfl⟩
  · rintro h _ ⟨s, hs, rfl⟩; exact h s hs
open Classical in
theorem mem_step {y n : Int} {one other c : List Int} {left : List (List Int)} : c ∈ stepL y n one left other ↔ c ∈ left ∨ (c = madeL one other y n ∧ Fine c) := by
  unfold stepL
  dsimp only
  split
  · rename_i h
    rw [List.mem_append, mem_without, List.mem_singleton]
    have hf := turned_iff.mp h
    constructor
    · rintro (h | ⟨rfl, _⟩)
      · exact .inl h
      · exact .inr ⟨rfl, hf⟩
    · rintro (h | ⟨rfl, _⟩)
      · exact .inl h
      · by_cases hm : madeL one other y n ∈ left
        · exact .inl hm
        · exact .inr ⟨rfl, hm⟩
  · rename_i h
    constructor
    · exact .inl
    · rintro (h' | ⟨rfl, hf⟩)
      · exact h'
      · exact absurd (turned_iff.mpr hf) h
theorem mem_row {y n : Int} {one c : List Int} : ∀ {against left : List (List Int)}, c ∈ rowL y n against left one ↔ c ∈ left ∨ ∃ other ∈ against, c = madeL one other y n ∧ Fine c
  | [], left => by simp [rowL]
  | o :: against, left => by
    have ih := mem_row (y := y) (n := n) (one := one) (c := c) (against := against) (left := stepL y n one left o)
    show c ∈ rowL y n against (stepL y n one left o) one ↔ _
    rw [ih, mem_step]
    simp only [List.mem_cons, exists_eq_or_imp, or_assoc]
theorem mem_rows {y n : Int} {c : List Int} {against : List (List Int)} : ∀ {having left : List (List Int)}, c ∈ having.foldl (rowL y n against) left ↔ c ∈ left ∨ ∃ one ∈ having, ∃ other ∈ against, c = madeL one other y n ∧ Fine c
  | [], left => by simp
  | o :: having, left => by
    rw [List.foldl_cons, mem_rows, mem_row]
    simp only [List.mem_cons, exists_eq_or_imp, or_assoc]
theorem mem_having {cs : List (List Int)} {x : Int} {c : List Int} : c ∈ havingL cs x ↔ c ∈ cs ∧ x ∈ c := by
  unfold havingL; rw [List.mem_filter, decide_eq_true_eq]
theorem mem_struck {cs : List (List Int)} {y n : Int} {c : List Int} : c ∈ struckL cs y n ↔ (c ∈ cs ∧ y ∉ c ∧ n ∉ c) ∨ ∃ one ∈ cs, y ∈ one ∧ ∃ other ∈ cs, n ∈ other ∧ c = madeL one other y n ∧ Fine c := by
  unfold struckL
  rw [mem_rows, mem_without, List.mem_append, mem_having, mem_having]
  constructor
  · rintro (⟨h, h'⟩ | ⟨one, ho, other, hn, h⟩)
    · exact .inl ⟨h, fun q => h' (.inl ⟨h, q⟩), fun q => h' (.inr ⟨h, q⟩)⟩
    · exact .inr ⟨one, (mem_having.mp ho).1, (mem_having.mp ho).2, other, (mem_having.mp hn).1, (mem_having.mp hn).2, h⟩
  · rintro (⟨h, h1, h2⟩ | ⟨one, ho, ho', other, hn, hn', h⟩)
    · exact .inl ⟨h, fun q => q.elim (fun q => h1 q.2) fun q => h2 q.2⟩
    · exact .inr ⟨one, mem_having.mpr ⟨ho, ho'⟩, other, mem_having.mpr ⟨hn, hn'⟩, h⟩
end Mine

end
section
open PySem PySem.W PyProof.Rows PySem.Calls
set_option Elab.async false
set_option autoImplicit false
set_option linter.unusedVariables false
namespace Mine
/-- the letters of a clause -/
def Over (ls : List Int) (c : List Int) : Prop := ∀ x ∈ c, ∃ l ∈ ls, x = 2 * l ∨ x = 2 * l + 1
theorem neg_of {x l : Int} (h : x = 2 * l ∨ x = 2 * l + 1) : (x = 2 * l ∧ negS x = 2 * l + 1) ∨ (x = 2 * l + 1 ∧ negS x = 2 * l) := by
  rcases h with rfl | rfl
  · exact .inl ⟨rfl, neg_yes l⟩
  · exact .inr ⟨rfl, neg_no l⟩
/-- one letter struck -/
theorem one_step {cs : List (List Int)} {l : Int} {V st : List Int} (ho : ∀ c ∈ cs, Over (l :: V) c) (hf : ∀ c ∈ cs, Fine c) (hl : l ∉ V) (hs : IsSet V st) :
    holdsB (struckL cs (2 * l) (2 * l + 1)) st = true ↔ ∃ x, (x = 2 * l ∨ x = 2 * l + 1) ∧ holdsB cs (x :: st) = true := by
  have noy : 2 * l ∉ st := fun h => by
    obtain ⟨l', h', e⟩ := isSet_mem hs _ h
    have : l' = l := by omega
    exact hl (this ▸ h')
  have non : 2 * l + 1 ∉ st := fun h => by
    obtain ⟨l', h', e⟩ := isSet_mem hs _ h
    have : l' = l := by omega
    exact hl (this ▸ h')
  constructor
  · intro h
    rw [holds_iff] at h
    refine Classical.byContradiction fun hne => ?_
    have f1 : ¬ holdsB cs ((2 * l) :: st) = true := fun q => hne ⟨_, .inl rfl, q⟩
    have f2 : ¬ holdsB cs ((2 * l + 1) :: st) = true := fun q => hne ⟨_, .inr rfl, q⟩
    rw [holds_iff] at f1 f2
    have g : ∀ y : Int, ¬ (∀ c ∈ cs, ∃ x ∈ c, x ∈ y :: st) → ∃ c ∈ cs, ∀ x ∈ c, x ≠ y ∧ x ∉ st := fun y hy => by
      refine Classical.byContradiction fun q => hy fun c hc => ?_
      refine Classical.byContradiction fun r => q ⟨c, hc, fun x hx => ⟨fun e => r ⟨x, hx, e ▸ .head _⟩, fun e => r ⟨x, hx, .tail _ e⟩⟩⟩
    obtain ⟨a, ha, ha'⟩ := g _ f1
    obtain ⟨b, hb, hb'⟩ := g _ f2
    have na : 2 * l + 1 ∈ a := by
      refine Classical.byContradiction fun q => ?_
      obtain ⟨x, hx, hx'⟩ := h a (mem_struck.mpr (.inl ⟨ha, fun r => (ha' _ r).1 rfl, q⟩))
      exact (ha' x hx).2 hx'
    have yb : 2 * l ∈ b := by
      refine Classical.byContradiction fun q => ?_
      obtain ⟨x, hx, hx'⟩ := h b (mem_struck.mpr (.inl ⟨hb, q, fun r => (hb' _ r).1 rfl⟩))
      exact (hb' x hx).2 hx'
    by_cases hfm : Fine (madeL b a (2 * l) (2 * l + 1))
    · obtain ⟨x, hx, hx'⟩ := h _ (mem_struck.mpr (.inr ⟨b, hb, yb, a, ha, na, rfl, hfm⟩))
      rcases (mem_made.mp hx).1 with q | q
      · exact (hb' x q).2 hx'
      · exact (ha' x q).2 hx'
    · have : ∃ x ∈ madeL b a (2 * l) (2 * l + 1), negS x ∈ madeL b a (2 * l) (2 * l + 1) := by
        refine Classical.byContradiction fun q => hfm fun x hx hx' => q ⟨x, hx, hx'⟩
      obtain ⟨x, hx, hx'⟩ := this
      have out : ∀ z ∈ madeL b a (2 * l) (2 * l + 1), z ∉ st := fun z hz => by
        rcases (mem_made.mp hz).1 with q | q
        · exact (hb' z q).2
        · exact (ha' z q).2
      have ov : ∃ k ∈ V, x = 2 * k ∨ x = 2 * k + 1 := by
        obtain ⟨q, q1, q2⟩ := mem_made.mp hx
        have : ∃ k ∈ l :: V, x = 2 * k ∨ x = 2 * k + 1 := q.elim (fun r => ho b hb x r) (fun r => ho a ha x r)
        obtain ⟨k, hk, e⟩ := this
        rcases List.mem_cons.mp hk with rfl | hk
        · rcases e with e | e
          · exact absurd e q1
          · exact absurd e q2
        · exact ⟨k, hk, e⟩
      obtain ⟨k, hk, e⟩ := ov
      rcases neg_of e with ⟨e1, e2⟩ | ⟨e1, e2⟩ <;> rcases isSet_has hs k hk with r | r
      · exact out _ hx (e1 ▸ r)
      · exact out _ hx' (e2 ▸ r)
      · exact out _ hx' (e2 ▸ r)
      · exact out _ hx (e1 ▸ r)
  · rintro ⟨x, hx, h⟩
    rw [holds_iff] at h ⊢
    intro c hc
    rcases mem_struck.mp hc with ⟨hc, h1, h2⟩ | ⟨one, ho1, hy, other, ho2, hn, rfl, _⟩
    · obtain ⟨z, hz, hz'⟩ := h c hc
      rcases List.mem_cons.mp hz' with e | hz'
      · rcases hx with e' | e'
        · exact absurd (e'.symm ▸ e ▸ hz) h1
        · exact absurd (e'.symm ▸ e ▸ hz) h2
      · exact ⟨z, hz, hz'⟩
    · have inst : ∀ d ∈ cs, x ∉ d → (∀ z ∈ d, z ∈ one ∨ z ∈ other) → ∃ z ∈ madeL one other (2 * l) (2 * l + 1), z ∈ st := fun d hd hxd hsub => by
        obtain ⟨z, hz, hz'⟩ := h d hd
        rcases List.mem_cons.mp hz' with e | hz'
        · exact absurd (e ▸ hz) hxd
        · exact ⟨z, mem_made.mpr ⟨hsub z hz, fun e => noy (e ▸ hz'), fun e => non (e ▸ hz')⟩, hz'⟩
      rcases hx with rfl | rfl
      · exact inst other ho2 (fun q => hf other ho2 _ q (by rw [neg_yes]; exact hn)) fun z hz => .inr hz
      · exact inst one ho1 (fun q => hf one ho1 _ q (by rw [neg_no]; exact hy)) fun z hz => .inl hz
theorem over_struck {cs : List (List Int)} {l : Int} {V : List Int} (ho : ∀ c ∈ cs, Over (l :: V) c) : ∀ c ∈ struckL cs (2 * l) (2 * l + 1), Over V c := by
  have key : ∀ {x : Int}, (∃ k ∈ l :: V, x = 2 * k ∨ x = 2 * k + 1) → x ≠ 2 * l → x ≠ 2 * l + 1 → ∃ k ∈ V, x = 2 * k ∨ x = 2 * k + 1 := fun {x} ⟨k, hk, e⟩ h1 h2 => by
    rcases List.mem_cons.mp hk with rfl | hk
    · exact absurd e (by omega)
    · exact ⟨k, hk, e⟩
  intro c hc x hx
  rcases mem_struck.mp hc with ⟨hc, h1, h2⟩ | ⟨one, ho1, _, other, ho2, _, rfl, _⟩
  · exact key (ho c hc x hx) (fun e => h1 (e ▸ hx)) (fun e => h2 (e ▸ hx))
  · obtain ⟨h, h1, h2⟩ := mem_made.mp hx
    exact key (h.elim (ho one ho1 x) (ho other ho2 x)) h1 h2
theorem fine_struck {cs : List (List Int)} {l : Int} (hf : ∀ c ∈ cs, Fine c) : ∀ c ∈ struckL cs (2 * l) (2 * l + 1), Fine c := by
  intro c hc
  rcases mem_struck.mp hc with ⟨hc, _⟩ | ⟨one, _, _, other, _, _, rfl, h⟩
  · exact hf c hc
  · exact h
end Mine

end
section
open PySem PySem.W PyProof.Rows PySem.Calls
set_option Elab.async false
set_option autoImplicit false
set_option linter.unusedVariables false
namespace Mine
/-- what is asked of the drawn clauses and of the order -/
structure Start (ds : List (List Int)) (ls : List Int) : Prop where
  four : ls.length = 4
  nodup : ls.Nodup
  over : ∀ c ∈ ds, Over ls c
  fine : ∀ c ∈ ds, Fine c
  full : ∀ c ∈ ds, c ≠ []
  short : ∀ c ∈ ds, c.length ≤ 4
  few : ds.length ≤ 8
theorem drop_at {ls : List Int} {i : Nat} (h : i < ls.length) : ∃ l, ls[i]? = some l ∧ ls.drop i = l :: ls.drop (i + 1) ∧ ls.take (i + 1) = ls.take i ++ [l] :=
  ⟨ls[i], List.getElem?_eq_getElem h, List.drop_eq_getElem_cons h, by rw [List.take_add_one, List.getElem?_eq_getElem h]; rfl⟩
theorem cls_inv {ds : List (List Int)} {ls : List Int} (S : Start ds ls) : ∀ i, i ≤ 4 → (∀ c ∈ clsAt ds ls i, Over (ls.drop i) c) ∧ (∀ c ∈ clsAt ds ls i, Fine c)
  | 0, _ => ⟨S.over, S.fine⟩
  | i + 1, h => by
    obtain ⟨h1, h2⟩ := cls_inv S i (by omega)
    obtain ⟨l, hl, hd, _⟩ := drop_at (ls := ls) (i := i) (by rw [S.four]; omega)
    rw [cls_succ hl]
    exact ⟨over_struck (by rw [← hd]; exact h1), fine_struck h2⟩
theorem nodup_drop {ls : List Int} (h : ls.Nodup) {i : Nat} {l : Int} (hd : ls.drop i = l :: ls.drop (i + 1)) : l ∉ ls.drop (i + 1) := by
  have : (ls.drop i).Nodup := h.sublist (List.drop_sublist i ls)
  rw [hd] at this
  exact (List.nodup_cons.mp this).1
theorem main_law {ds : List (List Int)} {ls : List Int} (S : Start ds ls) : ∀ i, i ≤ 4 → ∀ st, IsSet (ls.drop i) st → (holdsB (clsAt ds ls i) st = true ↔ ∃ p, IsSet (ls.take i) p ∧ holdsB ds (p ++ st) = true)
  | 0, _, st, _ => by
    constructor
    · intro h; exact ⟨[], trivial, h⟩
    · rintro ⟨p, hp, h⟩
      cases p with
      | nil => exact h
      | cons _ _ => exact hp.elim
  | i + 1, h, st, hs => by
    obtain ⟨l, hl, hd, ht⟩ := drop_at (ls := ls) (i := i) (by rw [S.four]; omega)
    obtain ⟨h1, h2⟩ := cls_inv S i (by omega)
    rw [cls_succ hl, one_step (V := ls.drop (i + 1)) (by rw [← hd]; exact h1) h2 (nodup_drop S.nodup hd) hs]
    have ih : ∀ x, (x = 2 * l ∨ x = 2 * l + 1) → (holdsB (clsAt ds ls i) (x :: st) = true ↔ ∃ p, IsSet (ls.take i) p ∧ holdsB ds (p ++ x :: st) = true) := fun x hx => main_law S i (by omega) (x :: st) (by rw [hd]; exact ⟨hx, hs⟩)
    constructor
    · rintro ⟨x, hx, hh⟩
      obtain ⟨p, hp, hh⟩ := (ih x hx).mp hh
      exact ⟨p ++ [x], by rw [ht]; exact isSet_app hp ⟨hx, trivial⟩, by rw [List.append_assoc]; exact hh⟩
    · rintro ⟨p, hp, hh⟩
      rw [ht] at hp
      obtain ⟨q, r, rfl, hq, hr⟩ := isSet_split hp
      match r, hr with
      | [x], hr =>
        refine ⟨x, hr.1, (ih x hr.1).mpr ⟨q, hq, ?_⟩⟩
        rw [List.append_assoc] at hh
        exact hh
theorem isSet_drop : ∀ {ls t : List Int} (i : Nat), IsSet ls t → IsSet (ls.drop i) (t.drop i)
  | _, _, 0, h => h
  | [], [], _ + 1, _ => trivial
  | _ :: _, _ :: _, i + 1, h => isSet_drop i h.2
theorem isSet_take : ∀ {ls t : List Int} (i : Nat), IsSet ls t → IsSet (ls.take i) (t.take i)
  | _, _, 0, _ => trivial
  | [], [], _ + 1, _ => trivial
  | _ :: _, _ :: _, i + 1, h => ⟨h.1, isSet_take i h.2⟩
theorem fdiv_two {x l : Int} (h : x = 2 * l ∨ x = 2 * l + 1) : x.fdiv 2 = l := by
  rw [Int.fdiv_eq_ediv_of_nonneg _ (by decide)]; omega
theorem strip_one {l x : Int} {V t : List Int} (h : IsSet (l :: V) (x :: t)) (hl : l ∉ V) : (x :: t).filter (fun s => decide (s.fdiv 2 ≠ l)) = t := by
  rw [List.filter_cons, if_neg (by rw [fdiv_two h.1]; simp), List.filter_eq_self]
  intro z hz
  obtain ⟨k, hk, e⟩ := isSet_mem h.2 z hz
  rw [decide_eq_true_eq, fdiv_two e]
  exact fun q => hl (q ▸ hk)
theorem mds_drop {ds : List (List Int)} {ls : List Int} (S : Start ds ls) : ∀ i, i ≤ 4 → mdsAt ds ls i = (modelsL ds ls).map (fun m => m.drop i)
  | 0, _ => by show modelsL ds ls = _; simp
  | i + 1, h => by
    obtain ⟨l, hl, hd, ht⟩ := drop_at (ls := ls) (i := i) (by rw [S.four]; omega)
    rw [mds_succ hl, mds_drop S i (by omega), stripL, List.map_map]
    refine List.map_congr_left fun m hm => ?_
    have hs := isSet_drop i (mem_settings.mp (List.mem_filter.mp hm).1)
    rw [hd] at hs
    have e : m.drop (i + 1) = (m.drop i).drop 1 := by rw [List.drop_drop]
    show (m.drop i).filter _ = m.drop (i + 1)
    rw [e]
    generalize m.drop i = u at hs
    cases u with
    | nil => exact hs.elim
    | cons x t => exact strip_one hs (nodup_drop S.nodup hd)
theorem agree_law {ds : List (List Int)} {ls : List Int} (S : Start ds ls) {i : Nat} (hi : i ≤ 4) {st : List Int} (hs : st ∈ settingsL (ls.drop i)) : holdsB (clsAt ds ls i) st = decide (st ∈ mdsAt ds ls i) := by
  have hs := mem_settings.mp hs
  rw [Bool.eq_iff_iff, decide_eq_true_eq, main_law S i hi st hs, mds_drop S i hi, List.mem_map]
  constructor
  · rintro ⟨p, hp, h⟩
    have hlen : p.length = i := by rw [← hp.len, List.length_take, S.four]; omega
    refine ⟨p ++ st, List.mem_filter.mpr ⟨mem_settings.mpr ?_, h⟩, by rw [← hlen, List.drop_left]⟩
    have := isSet_app hp hs
    rwa [List.take_append_drop] at this
  · rintro ⟨m, hm, rfl⟩
    obtain ⟨h1, h2⟩ := List.mem_filter.mp hm
    exact ⟨m.take i, isSet_take i (mem_settings.mp h1), by rw [List.take_append_drop]; exact h2⟩
end Mine

end
section
open PySem PySem.W PyProof.Rows PySem.Calls
set_option Elab.async false
set_option autoImplicit false
set_option linter.unusedVariables false
namespace Mine
/-! the empty clause stands at most once -/
theorem count_step {y n : Int} {one other : List Int} {left : List (List Int)} (h : left.count [] ≤ 1) : (stepL y n one left other).count [] ≤ 1 := by
  unfold stepL
  dsimp only
  split
  · rw [List.count_append]
    by_cases hm : madeL one other y n ∈ left
    · have : without [madeL one other y n] left = [] := by
        unfold without; rw [List.filter_eq_nil_iff]; intro z hz; rw [List.mem_singleton.mp hz]; simp [hm]
      rw [this]; simpa using h
    · have : without [madeL one other y n] left = [madeL one other y n] := by
        unfold without; rw [List.filter_eq_self]; intro z hz; rw [List.mem_singleton.mp hz]; simp [hm]
      rw [this]
      by_cases hn : madeL one other y n = []
      · rw [hn] at hm ⊢
        rw [List.count_eq_zero.mpr hm]; simp
      · have : List.count [] [madeL one other y n] = 0 := List.count_eq_zero.mpr (by simp [Ne.symm hn])
        rw [this]; exact h
  · exact h
theorem count_fold {β : Type} {f : List (List Int) → β → List (List Int)} (hf : ∀ l b, l.count [] ≤ 1 → (f l b).count [] ≤ 1) : ∀ (bs : List β) (l : List (List Int)), l.count [] ≤ 1 → (bs.foldl f l).count [] ≤ 1
  | [], _, h => h
  | b :: bs, l, h => count_fold hf bs _ (hf l b h)
theorem count_struck {cs : List (List Int)} {y n : Int} (h : cs.count [] ≤ 1) : (struckL cs y n).count [] ≤ 1 := by
  unfold struckL
  refine count_fold (fun l b hl => count_fold (fun l b hl => count_step hl) _ _ hl) _ _ ?_
  exact Nat.le_trans (List.Sublist.count_le _ List.filter_sublist) h
theorem cls_count {ds : List (List Int)} {ls : List Int} (S : Start ds ls) : ∀ i, i ≤ 4 → (clsAt ds ls i).count [] ≤ 1
  | 0, _ => by
    have : ds.count [] = 0 := List.count_eq_zero.mpr fun h => S.full _ h rfl
    show ds.count [] ≤ 1
    omega
  | i + 1, h => by
    obtain ⟨l, hl, _⟩ := drop_at (ls := ls) (i := i) (by rw [S.four]; omega)
    rw [cls_succ hl]
    exact count_struck (cls_count S i (by omega))
theorem only_nil : ∀ {cs : List (List Int)}, (∀ c ∈ cs, c = []) → cs.count [] ≤ 1 → cs = [] ∨ cs = [[]]
  | [], _, _ => .inl rfl
  | [c], h, _ => .inr (by rw [h c (.head _)])
  | c :: d :: cs, h, hc => by
    rw [h c (.head _), h d (.tail _ (.head _))] at hc
    simp only [List.count_cons_self] at hc
    omega
theorem last_law {ds : List (List Int)} {ls : List Int} (S : Start ds ls) : clsAt ds ls 4 = if mdsAt ds ls 4 ≠ [] then [] else [[]] := by
  have h0 : ls.drop 4 = [] := List.drop_eq_nil_of_le (by rw [S.four]; exact Nat.le_refl 4)
  have hn : ∀ c ∈ clsAt ds ls 4, c = [] := fun c hc => by
    have := (cls_inv S 4 (by omega)).1 c hc
    rw [h0] at this
    cases c with
    | nil => rfl
    | cons x c => obtain ⟨l, hl, _⟩ := this x (.head _); cases hl
  have hm := main_law S 4 (Nat.le_refl 4) [] (by rw [h0]; trivial)
  have ht : ls.take 4 = ls := List.take_of_length_le (by rw [S.four]; exact Nat.le_refl 4)
  rw [ht] at hm
  have hex : mdsAt ds ls 4 ≠ [] ↔ ∃ p, IsSet ls p ∧ holdsB ds (p ++ []) = true := by
    rw [mds_drop S 4 (by omega)]
    constructor
    · intro h
      cases hM : modelsL ds ls with
      | nil => rw [hM] at h; exact absurd rfl h
      | cons m M =>
        have : m ∈ modelsL ds ls := by rw [hM]; exact .head _
        obtain ⟨h1, h2⟩ := List.mem_filter.mp this
        exact ⟨m, mem_settings.mp h1, by rwa [List.append_nil]⟩
    · rintro ⟨p, hp, h⟩ e
      rw [List.append_nil] at h
      have : p ∈ modelsL ds ls := List.mem_filter.mpr ⟨mem_settings.mpr hp, h⟩
      rw [List.map_eq_nil_iff.mp e] at this
      cases this
  rcases only_nil hn (cls_count S 4 (by omega)) with e | e
  · rw [if_pos]
    · exact e
    · refine hex.mpr (hm.mp ?_)
      rw [e]; rfl
  · rw [if_neg]
    · exact e
    · intro h
      have := hm.mpr (hex.mp h)
      rw [e] at this
      cases this
/-! sizes -/
theorem two_filters {α : Type} (p q : α → Bool) : ∀ {cs : List α}, (∀ c ∈ cs, ¬ (p c = true ∧ q c = true)) → (cs.filter p).length + (cs.filter q).length ≤ cs.length
  | [], _ => by simp
  | c :: cs, h => by
    have ih := two_filters p q (cs := cs) fun d hd => h d (.tail _ hd)
    have hc := h c (.head _)
    rw [List.filter_cons, List.filter_cons, List.length_cons]
    cases hp : p c <;> cases hq : q c
    · simp; omega
    · simp; omega
    · simp; omega
    · exact absurd ⟨hp, hq⟩ hc
theorem prod_le (h a n : Nat) (hn : h + a ≤ n) : 4 * (h * a) ≤ n * n := by
  have h1 : (h + a) * (h + a) ≤ n * n := Nat.mul_le_mul hn hn
  refine Nat.le_trans ?_ h1
  rcases Nat.le_total h a with q | q
  · obtain ⟨d, rfl⟩ := Nat.exists_eq_add_of_le q
    simp only [Nat.mul_add, Nat.add_mul]
    have := Nat.mul_comm d h
    omega
  · obtain ⟨d, rfl⟩ := Nat.exists_eq_add_of_le q
    simp only [Nat.mul_add, Nat.add_mul]
    have := Nat.mul_comm d a
    omega
theorem having_le {cs : List (List Int)} {l : Int} (hf : ∀ c ∈ cs, Fine c) : (havingL cs (2 * l)).length + (havingL cs (2 * l + 1)).length ≤ cs.length := by
  refine two_filters _ _ fun c hc h => ?_
  rw [decide_eq_true_eq, decide_eq_true_eq] at h
  exact hf c hc _ h.1 (by rw [neg_yes]; exact h.2)
theorem struck_len (cs : List (List Int)) (y n : Int) : (struckL cs y n).length ≤ cs.length + (havingL cs y).length * (havingL cs n).length := by
  unfold struckL
  have h1 := fold_len (rowL y n (havingL cs n)) (havingL cs n).length (fun l b => rowL_len y n _ l b) (havingL cs y) (without cs (havingL cs y ++ havingL cs n))
  have h2 := without_len cs (havingL cs y ++ havingL cs n)
  omega
def capN : Nat → Nat
  | 0 => 8
  | 1 => 24
  | 2 => 168
  | _ => 7224
theorem cls_len {ds : List (List Int)} {ls : List Int} (S : Start ds ls) : ∀ i, i < 4 → (clsAt ds ls i).length ≤ capN i
  | 0, _ => S.few
  | i + 1, h => by
    obtain ⟨l, hl, _⟩ := drop_at (ls := ls) (i := i) (by rw [S.four]; omega)
    have ih := cls_len S i (by omega)
    rw [cls_succ hl]
    have h1 := struck_len (clsAt ds ls i) (2 * l) (2 * l + 1)
    have h2 := prod_le _ _ _ (Nat.le_trans (having_le (l := l) (cls_inv S i (by omega)).2) ih)
    have : i = 0 ∨ i = 1 ∨ i = 2 := by omega
    rcases this with rfl | rfl | rfl <;> simp only [capN] at ih h2 ⊢ <;> omega
theorem made_len {one other : List Int} {y n : Int} (hy : y ∈ one) (hn : n ∈ other) : (madeL one other y n).length + 2 ≤ one.length + other.length := by
  have h1 : (without one [y, n]).length < one.length := List.length_filter_lt_length_iff_exists.mpr ⟨y, hy, by simp⟩
  have h2 : (without other [y, n]).length < other.length := List.length_filter_lt_length_iff_exists.mpr ⟨n, hn, by simp⟩
  have h3 : (without (without other one) [y, n]).length ≤ (without other [y, n]).length := by
    unfold without
    exact (List.Sublist.filter _ List.filter_sublist).length_le
  have e : (madeL one other y n).length = (without one [y, n]).length + (without (without other one) [y, n]).length := by
    unfold madeL
    rw [(msort_perm _).length_eq, without, List.filter_append, List.length_append]
    rfl
  omega
def capL : Nat → Nat
  | 0 => 4
  | 1 => 6
  | 2 => 10
  | _ => 18
theorem cls_short {ds : List (List Int)} {ls : List Int} (S : Start ds ls) : ∀ i, i < 4 → ∀ c ∈ clsAt ds ls i, c.length ≤ capL i
  | 0, _ => S.short
  | i + 1, h => by
    obtain ⟨l, hl, _⟩ := drop_at (ls := ls) (i := i) (by rw [S.four]; omega)
    have ih := cls_short S i (by omega)
    rw [cls_succ hl]
    intro c hc
    have h3 : i = 0 ∨ i = 1 ∨ i = 2 := by omega
    rcases mem_struck.mp hc with ⟨hc, _⟩ | ⟨one, h1, hy, other, h2, hn, rfl, _⟩
    · have := ih c hc
      rcases h3 with rfl | rfl | rfl <;> simp only [capL] at this ⊢ <;> omega
    · have a := ih one h1
      have b := ih other h2
      have := made_len hy hn
      rcases h3 with rfl | rfl | rfl <;> simp only [capL] at a b ⊢ <;> omega
theorem plain_law {ds : List (List Int)} {ls : List Int} (S : Start ds ls) : Plain ds ls where
  four := S.four
  lens i hi c hc := by
    rcases Nat.lt_or_ge i 4 with h | h
    · have := cls_short S i h c hc
      have h3 : i = 0 ∨ i = 1 ∨ i = 2 ∨ i = 3 := by omega
      rcases h3 with rfl | rfl | rfl | rfl <;> simp only [capL] at this <;> omega
    · obtain rfl : i = 4 := by omega
      have h0 : ls.drop 4 = [] := List.drop_eq_nil_of_le (by rw [S.four]; exact Nat.le_refl 4)
      have := (cls_inv S 4 (by omega)).1 c hc
      rw [h0] at this
      cases c with
      | nil => simp
      | cons x c => obtain ⟨l, hl, _⟩ := this x (.head _); cases hl
  count i hi := by
    have := cls_len S i hi
    have h3 : i = 0 ∨ i = 1 ∨ i = 2 ∨ i = 3 := by omega
    rcases h3 with rfl | rfl | rfl | rfl <;> simp only [capN] at this <;> omega
  room i l hi hl := by
    have h1 := cls_len S i hi
    have h2 := prod_le _ _ _ (Nat.le_trans (having_le (l := l) (cls_inv S i (by omega)).2) h1)
    rw [sizeLine_eq]
    have h3 : i = 0 ∨ i = 1 ∨ i = 2 ∨ i = 3 := by omega
    rcases h3 with rfl | rfl | rfl | rfl <;> simp only [capN] at h1 h2 <;> omega
  agree i hi st hs := agree_law S (by omega) hs
  last := last_law S
end Mine

end
section
open PySem PySem.W PyProof.Rows PySem.Calls
set_option Elab.async false
set_option autoImplicit false
set_option linter.unusedVariables false
namespace Mine
theorem order_perm (x : Int) : ∀ i, ((orderTo x i).1).Perm ((List.range i).map fun (k : Nat) => (k : Int))
  | 0 => .nil
  | i + 1 => by
    have ih := order_perm x i
    rw [List.range_succ, List.map_append]
    show (List.take _ _ ++ [(i : Int)] ++ List.drop _ _).Perm _
    generalize ((orderTo x i).2.fmod ((i : Int) + 1)).toNat = p
    generalize (orderTo x i).1 = o at ih ⊢
    have h1 : (o.take p ++ [(i : Int)] ++ o.drop p).Perm (o.take p ++ o.drop p ++ [(i : Int)]) := by
      rw [List.append_assoc, List.append_assoc]
      exact List.Perm.append_left _ List.perm_append_comm
    rw [List.take_append_drop] at h1
    exact h1.trans (ih.append_right _)
theorem codes_fine : ∀ c < 81, ∀ s ∈ clauseL c, negS s ∉ clauseL c := by decide +kernel
theorem codes_full : ∀ c < 81, 0 < c → clauseL c ≠ [] := by decide +kernel
theorem start_law (xs : List Int) (x : Int) : Start (drawnL xs) (orderL x) where
  four := orderTo_len x 4
  nodup := (order_perm x 4).nodup_iff.mpr (by decide)
  over c hc s hs := by
    obtain ⟨n, _, rfl⟩ := List.mem_map.mp hc
    have := clauseL_in s hs
    have hl : s.ediv 2 ∈ orderL x := by
      refine (order_perm x 4).mem_iff.mpr (List.mem_map.mpr ⟨(s.ediv 2).toNat, List.mem_range.mpr ?_, ?_⟩)
      · have : s.ediv 2 = s / 2 := rfl
        omega
      · have : s.ediv 2 = s / 2 := rfl
        omega
    refine ⟨s.ediv 2, hl, ?_⟩
    have : s.ediv 2 = s / 2 := rfl
    omega
  fine c hc := by
    obtain ⟨n, _, rfl⟩ := List.mem_map.mp hc
    have h0 : 0 ≤ n.fmod 80 := Int.fmod_nonneg_of_pos _ (by decide)
    have h1 : n.fmod 80 < 80 := Int.fmod_lt_of_pos _ (by decide)
    exact codes_fine _ (by omega)
  full c hc := by
    obtain ⟨n, _, rfl⟩ := List.mem_map.mp hc
    have h0 : 0 ≤ n.fmod 80 := Int.fmod_nonneg_of_pos _ (by decide)
    have h1 : n.fmod 80 < 80 := Int.fmod_lt_of_pos _ (by decide)
    exact codes_full _ (by omega) (by omega)
  short := (drawn_len xs).2
  few := (drawn_len xs).1
end Mine

end
section
open PySem PySem.W PyProof.Rows PySem.Calls
set_option Elab.async false
set_option autoImplicit false
set_option maxRecDepth 100000
set_option maxHeartbeats 8000000
namespace Mine
def fnAt (K : Frag) (a : Addr) : Option FuncData := match K.lookup a with
  | some ⟨_, _, .func fd, _⟩ => some fd
  | _ => none
def codeOk (K : Frag) (fd : FuncData) : Bool := match fd.code with
  | .ref c => match K.lookup c with
    | some ⟨_, _, .fields vs, _⟩ => match (vs[1]? : Option Value) with
      | some (.str q _) => q == fd.qualname
      | _ => false
    | _ => false
  | _ => false
theorem codeOk_rec {K : Frag} {h : Heap} {fd : FuncData} (X : K.In h) (e : codeOk K fd = true) : h.CodeRec fd.code fd.qualname := by
  unfold codeOk at e
  split at e
  · rename_i c hc
    split at e
    · rename_i vs _ ho
      split at e
      · rename_i q t hq
        rw [hc]
        exact ⟨c, _, _, t, rfl, X _ _ ho, rfl, by rw [hq, eq_of_beq e]⟩
      · cases e
    · cases e
  · cases e
theorem fnAt_obj {K : Frag} {h : Heap} {a : Addr} {fd : FuncData} (X : K.In h) (e : fnAt K a = some fd) : ∃ o, h.get? a = some o ∧ o.data = .func fd := by
  unfold fnAt at e
  split at e
  · rename_i ho; cases e; exact ⟨_, X _ _ ho, rfl⟩
  · cases e
theorem isT_of {K : Frag} {h : Heap} {a : Addr} {i : Nat} {ann : Option Addr} {pm cd doc : Value} (X : K.In h) (e : fnAt K a = some (fdT i ann pm cd doc)) (hc : codeOk K (fdT i ann pm cd doc) = true)
    (h1 : (dScope (topOf i)).isCoroutine = false) (h2 : (dScope (topOf i)).isGenerator = false) (h3 : (dScope (topOf i)).kind = .function) : IsDef h a (fdT i ann pm cd doc) (dBody (topOf i)) :=
  ⟨fnAt_obj X e, codeOk_rec X hc, rfl, rfl, h1, h2, h3⟩
abbrev fnOf (K : Frag) (a : Addr) : FuncData := (fnAt K a).getD default
abbrev fdK (K : Frag) (a : Addr) (i : Nat) : FuncData := fdT i (fnOf K a).annotations (fnOf K a).pyModule (fnOf K a).code (fnOf K a).doc
theorem isT_K {K : Frag} {h : Heap} (a : Addr) (i : Nat) (X : K.In h) (e : fnAt K a = some (fdK K a i)) (hc : codeOk K (fdK K a i) = true)
    (h1 : (dScope (topOf i)).isCoroutine = false) (h2 : (dScope (topOf i)).isGenerator = false) (h3 : (dScope (topOf i)).kind = .function) : IsDef h a (fdK K a i) (dBody (topOf i)) := isT_of X e hc h1 h2 h3
section
variable {K : Frag} {h : Heap} {p : Program} {loose : List Str} {mean : ExcName → Option Value} {mg mb : Str → Option Value}
theorem bi {n : Str} {v : Value} (X : K.In h) (T : Top p loose mean mg mb h) (e : nsIn K mainGlobals n = some none) (hv : bootBuiltins n = some v) (hn : n ≠ "__name__") : mg n = none ∧ mb n = some v :=
  ⟨mg_none_of X T.g e, (T.builtins n hn).trans hv⟩
theorem env0_K (T : Top p loose mean mg mb h) : Env0 h mg mb := ⟨T.g, T.b, T.nolimit⟩
def tdOf (K : Frag) (a : Addr) : Addr := match (fnOf K a).defaults with | .ref t => t | _ => 0
abbrev fdMK (K : Frag) (a : Addr) (c i : Nat) (dV : Value) : FuncData := fdM c i (fnOf K a).qualname dV .none (fnOf K a).annotations (fnOf K a).pyModule (fnOf K a).code (fnOf K a).doc
theorem isM_K {K : Frag} {h : Heap} (a : Addr) (c i : Nat) (dV : Value) (X : K.In h) (e : fnAt K a = some (fdMK K a c i dV)) (hc : codeOk K (fdMK K a c i dV) = true)
    (h1 : (dScope (inOf (topOf c) i)).isCoroutine = false) (h2 : (dScope (inOf (topOf c) i)).isGenerator = false) (h3 : (dScope (inOf (topOf c) i)).kind = .function) : IsDef h a (fdMK K a c i dV) (dBody (inOf (topOf c) i)) :=
  ⟨fnAt_obj X e, codeOk_rec X hc, rfl, rfl, h1, h2, h3⟩
def tupAt (K : Frag) (t : Addr) : Option Value := match K.lookup t with
  | some ⟨_, _, .seq vs _, _⟩ => match vs.toList with
    | [v] => some v
    | _ => none
  | _ => none
theorem tupAt_of {K : Frag} {h : Heap} {t : Addr} {v : Value} (X : K.In h) (e : tupAt K t = some v) : Tup1 h t v := by
  unfold tupAt at e
  split at e
  · rename_i cl od vs n sl q
    split at e
    · rename_i u hu
      cases e
      refine ⟨cl, od, n, sl, ?_⟩
      rw [X _ _ q]
      have : vs = #[v] := by rw [← Array.toArray_toList (xs := vs), hu]
      rw [this]
    · cases e
  · cases e
def tokAt (K : Frag) (t : Addr) : Tok := match tupAt K t with | some (.int _ u) => u | _ => 0
theorem isMeth_K {a : Addr} {c i : Nat} {qual : Str} {dV : Value} (X : K.In h) (e : fnAt K a = some (fdM c i qual dV .none (fnOf K a).annotations (fnOf K a).pyModule (fnOf K a).code (fnOf K a).doc)) (hc : codeOk K (fdM c i qual dV .none (fnOf K a).annotations (fnOf K a).pyModule (fnOf K a).code (fnOf K a).doc) = true)
    (h1 : (dScope (inOf (topOf c) i)).isCoroutine = false) (h2 : (dScope (inOf (topOf c) i)).isGenerator = false) (h3 : (dScope (inOf (topOf c) i)).kind = .function) : IsMeth h a c i qual dV :=
  ⟨_, _, _, _, _, rfl, fnAt_obj X e, codeOk_rec X hc, rfl, rfl, h1, h2, h3⟩
def clsOk (K : Frag) (C : Addr) : Bool := match K.lookup C with
  | some ⟨_, _, .cls cd, _⟩ => !cd.abstract && !cd.hasDel && !cd.mro.isEmpty
  | _ => false
theorem clsOk_of {K : Frag} {h : Heap} {C : Addr} (X : K.In h) (e : clsOk K C = true) : ∃ oc od cd sl, h.get? C = some ⟨oc, od, .cls cd, sl⟩ ∧ cd.abstract = false ∧ cd.hasDel = false ∧ cd.mro.isEmpty = false := by
  unfold clsOk at e
  split at e
  · rename_i oc od cd sl q
    simp only [Bool.and_eq_true, Bool.not_eq_true'] at e
    exact ⟨oc, od, cd, sl, X _ _ q, e.1.1, e.1.2, e.2⟩
  · cases e
end
abbrev At (K : Params → Frag) (n : Str) (a : Addr) : Prop := ∀ P, nsIn (K P) mainGlobals n = some (some (.ref a))
abbrev TopT (K : Params → Frag) (a : Addr) (i : Nat) : Prop := ∀ {P : Params} {h : Heap}, (K P).In h → IsT h a i
abbrev NmT (K : Params → Frag) (N : (Str → Option Value) → (Str → Option Value) → Prop) : Prop :=
  ∀ {P : Params} {h : Heap} {p : Program} {loose : List Str} {mean : ExcName → Option Value} {mg mb : Str → Option Value}, (K P).In h → Top p loose mean mg mb h → N mg mb
/-- what is asked of the opened heap: each by evaluation -/
structure Facts (K : Params → Frag) : Prop where
  gLaw : At K "law" 670
  gClause : At K "_law_clause" 636
  gTold : At K "_law_told" 650
  gOrder : At K "_law_order" 643
  gSettings : At K "_law_settings" 660
  gHolds : At K "_law_holds" 665
  gStruck : At K "_law_struck" 655
  gFil : At K "_filter" 65
  gFF : At K "filterfalse" 54
  tLaw : TopT K 670 24
  tClause : TopT K 636 18
  tTold : TopT K 650 20
  tOrder : TopT K 643 19
  tSettings : TopT K 660 22
  tHolds : TopT K 665 23
  tStruck : TopT K 655 21
  tFil : TopT K 65 4
  t6 : TopT K 72 6
  t7 : TopT K 79 7
  t10 : TopT K 93 10
  nm : NmT K fun mg mb => Nm mg mb
  nm2 : NmT K fun mg mb => Nm2 mg mb
  nm3 : NmT K fun mg mb => Nm3 mg mb 380
  nm4 : NmT K fun mg mb => Nm4 mg mb
  nm5 : NmT K fun mg mb => Nm5 mg mb 93
  nm6 : NmT K fun mg mb => Nm6 mg mb 72 79
  nmS : NmT K fun mg mb => mg "sum" = none ∧ mb "sum" = some (.builtin "sum")
  nmT : NmT K fun mg mb => mg "sorted" = none ∧ mb "sorted" = some (.builtin "sorted")
  buf : ∀ P, BA (K P) 380 "_BytesIO__buf"
  pos : ∀ P, BA (K P) 380 "_BytesIO__pos"
  chk : ∀ P, MM (K P) 380 174 "_BytesIO__check"
  read : ∀ P, MM (K P) 380 304 "read"
  mchk : ∀ {P : Params} {h : Heap}, (K P).In h → IsM h 174 15 2 .none
  mread : ∀ {P : Params} {h : Heap}, (K P).In h → IsM h 304 15 20 (.ref (tdOf (K P) 304))
  tread : ∀ P, tupAt (K P) (tdOf (K P) 304) = some (.int (-1) (tokAt (K P) (tdOf (K P) 304)))
  tinit : ∀ P, tupAt (K P) (tdOf (K P) 167) = some .none
  minit : ∀ {P : Params} {h : Heap}, (K P).In h → IsMeth h 167 15 1 "BytesIO.__init__" (.ref (tdOf (K P) 167))
  keep : ∀ P, keepIn (K P) (.ref 380) = true
  keepF : ∀ P, keepIn (K P) (.ref 54) = true
  ff : ∀ {P : Params} {h : Heap}, (K P).In h → FF h (K P) 54 36 43 50 56 55
  bf : ∀ {P : Params} {h : Heap}, (K P).In h → BF h (K P) 380 124 120 167
namespace Facts
variable {K : Params → Frag} {P : Params} {h : Heap} {p : Program} {loose : List Str} {mean : ExcName → Option Value} {mg mb : Str → Option Value}
open Classical in
theorem fil (F : Facts K) (prog : Program) (w : World) (X : (K P).In h) (T : Top p loose mean mg mb h) : Fil prog w h mg := by
  obtain ⟨ann, pm, cd, doc, D⟩ := F.tFil X
  refine ⟨65, mg_of X T.g (F.gFil P), .def D, fun {α} k A B s v v₂ xs ys q G hb R hv hv₂ hsz hq => ?_⟩
  have hC : mg "filterfalse" = some (.ref 54) := mg_of X T.g (F.gFF P)
  refine (filter_meets (prog := prog) (w := w) D (F.ff X) hC (F.keepF P) (F.nm2 X T) (env0_K T) G hb R hv hv₂ hsz).mono fun B' r _ hr => ?_
  have e : ∀ q' : α → Bool, (∀ a, q' a = true ↔ a ∉ ys) → xs.filter q = xs.filter q' := fun q' hq' => List.filter_congr fun a _ => by rw [Bool.eq_iff_iff, hq a, hq' a]
  exact (e _ fun a => @decide_eq_true_iff _ _) ▸ hr
theorem def_at {f i : Nat} {n : Str} (X : (K P).In h) (T : Top p loose mean mg mb h) (g : At K n f) (t : TopT K f i) : ∃ f ann pm cd doc, mg n = some (.ref f) ∧ IsDef h f (fdT i ann pm cd doc) (dBody (topOf i)) := by
  obtain ⟨ann, pm, cd, doc, D⟩ := t X
  exact ⟨_, _, _, _, _, mg_of X T.g (g P), D⟩
theorem ln (F : Facts K) (prog : Program) (w : World) (X : (K P).In h) (T : Top p loose mean mg mb h) : LN prog w h mg mb :=
  ⟨env0_K T, F.nmS X T, (F.nm5 X T).len, F.nm X T, def_at X T F.gClause F.tClause⟩
theorem ln2 (F : Facts K) (prog : Program) (w : World) (X : (K P).In h) (T : Top p loose mean mg mb h) : LN2 prog w h mg mb :=
  ⟨env0_K T, F.nm X T, F.fil prog w X T, F.nmT X T, def_at X T F.gOrder F.tOrder, def_at X T F.gSettings F.tSettings, def_at X T F.gHolds F.tHolds, def_at X T F.gStruck F.tStruck⟩
theorem br (F : Facts K) (X : (K P).In h) : BR h (K P) 380 174 304 93 (tdOf (K P) 304) (.int (-1) (tokAt (K P) (tdOf (K P) 304))) :=
  ⟨X, F.buf P, F.pos P, F.chk P, F.read P, F.mchk X, F.mread X, tupAt_of X (F.tread P), F.t10 X⟩
theorem tl (F : Facts K) (X : (K P).In h) (T : Top p loose mean mg mb h) : TL h (K P) mg mb 380 174 304 93 (tdOf (K P) 304) 72 79 650 (tokAt (K P) (tdOf (K P) 304)) :=
  ⟨F.br X, F.t6 X, F.t7 X, F.tTold X, F.nm5 X T, F.nm6 X T, F.nm2 X T, mg_of X T.g (F.gTold P)⟩
theorem bi (F : Facts K) (X : (K P).In h) : BI h (K P) 380 167 (tdOf (K P) 167) := ⟨X, tupAt_of X (F.tinit P), F.minit X, F.buf P, F.pos P⟩
theorem walk (F : Facts K) {prog : Program} {w : World} {s : Shared} {l : Addr} {vs : List Value} {xs : List Int} {Q E : Value → Shared → Prop}
    (X : (K P).In s.heap) (T : Top p loose mean mg mb s.heap) (hl : s.heap.IsList l vs.toArray) (hi : IntsAre vs xs) (hsz : xs.length ≤ 63) (hQ : ∀ B' s', Stp callerA [] s B' s' → Q (.bool true) s') :
    wpC (model prog w) callerA (call (.ref 670) [.ref l]) Q E s :=
  law_meets (F.tLaw X) (F.ln prog w X T) (F.ln2 prog w X T) (F.bf X) (F.bi X) (F.nm3 X T) (F.nm4 X T) (F.keep P) (F.tl X T) ⟨fun _ _ e => e, rfl, trivial⟩ ⟨rfl, by decide, by decide⟩ hl hi hsz (plain_law (start_law xs _)) hQ
end Facts
end Mine

end
section
open PySem PySem.W PyProof.Rows PySem.Calls
set_option maxRecDepth 100000
set_option maxHeartbeats 8000000
namespace Mine
/-! These take the names of the opening's twins: the opening runs on the plain forms, and the compiled file stays small. -/
theorem x.tw10009160832155050540 : True := ⟨⟩
theorem x.tw1001532501855727302 : True := ⟨⟩
theorem x.tw10015834613479988621 : True := ⟨⟩
theorem x.tw10023139874327546841 : True := ⟨⟩
theorem x.tw10033835499480841576 : True := ⟨⟩
theorem x.tw10066789104696453630 : True := ⟨⟩
theorem x.tw1010278578411500068 : True := ⟨⟩
theorem x.tw10143683596295001876 : True := ⟨⟩
theorem x.tw1015377137424964574 : True := ⟨⟩
theorem x.tw10197060477242211412 : True := ⟨⟩
theorem x.tw10226116724939130778 : True := ⟨⟩
theorem x.tw10227242786614111529 : True := ⟨⟩
theorem x.tw10258857870411021366 : True := ⟨⟩
theorem x.tw10267089450696181043 : True := ⟨⟩
theorem x.tw10269978721791811702 : True := ⟨⟩
theorem x.tw1029178776387990457 : True := ⟨⟩
theorem x.tw10304904798139725890 : True := ⟨⟩
theorem x.tw10310400681604058792 : True := ⟨⟩
theorem x.tw10314044648956151410 : True := ⟨⟩
theorem x.tw10324827614789754765 : True := ⟨⟩
theorem x.tw10332183940477415690 : True := ⟨⟩
theorem x.tw10337713858166904036 : True := ⟨⟩
theorem x.tw10346329977637754999 : True := ⟨⟩
theorem x.tw10353587474284317725 : True := ⟨⟩
theorem x.tw10371146168739184225 : True := ⟨⟩
theorem x.tw10413092625324450665 : True := ⟨⟩
theorem x.tw10431802120512586459 : True := ⟨⟩
theorem x.tw10460298856954944025 : True := ⟨⟩
theorem x.tw10466111936039050714 : True := ⟨⟩
theorem x.tw10480007635166841858 : True := ⟨⟩
theorem x.tw10508699371634787813 : True := ⟨⟩
theorem x.tw10510552724105392224 : True := ⟨⟩
theorem x.tw10525739240252636989 : True := ⟨⟩
theorem x.tw10531092195878977319 : True := ⟨⟩
theorem x.tw10535028709905733415 : True := ⟨⟩
theorem x.tw10536622892851293650 : True := ⟨⟩
theorem x.tw10544501589002355260 : True := ⟨⟩
theorem x.tw10559756587101959707 : True := ⟨⟩
theorem x.tw10564701213421869435 : True := ⟨⟩
theorem x.tw10569255382827478549 : True := ⟨⟩
theorem x.tw10609690076140934253 : True := ⟨⟩
theorem x.tw10667553049735818075 : True := ⟨⟩
theorem x.tw10673936430186922526 : True := ⟨⟩
theorem x.tw10675130999574031611 : True := ⟨⟩
theorem x.tw10702386648754445941 : True := ⟨⟩
theorem x.tw10724780829119155504 : True := ⟨⟩
theorem x.tw10743729896306403609 : True := ⟨⟩
theorem x.tw10745145605313943024 : True := ⟨⟩
theorem x.tw10757744502361639836 : True := ⟨⟩
theorem x.tw10757968344062361776 : True := ⟨⟩
theorem x.tw1076621120908848105 : True := ⟨⟩
theorem x.tw1078212283321817257 : True := ⟨⟩
theorem x.tw10791274949475692085 : True := ⟨⟩
theorem x.tw10800248753980226638 : True := ⟨⟩
theorem x.tw10806841292961300100 : True := ⟨⟩
theorem x.tw10839183739299854398 : True := ⟨⟩
theorem x.tw10859420416805914402 : True := ⟨⟩
theorem x.tw10875150210409747867 : True := ⟨⟩
theorem x.tw10882022406747698613 : True := ⟨⟩
theorem x.tw10921241487703970548 : True := ⟨⟩
theorem x.tw10934922501261311856 : True := ⟨⟩
theorem x.tw10953674834552578204 : True := ⟨⟩
theorem x.tw1097803916355987652 : True := ⟨⟩
theorem x.tw10992156107262829661 : True := ⟨⟩
theorem x.tw11038615921957508770 : True := ⟨⟩
theorem x.tw11038676408500184233 : True := ⟨⟩
theorem x.tw11056226911114484436 : True := ⟨⟩
theorem x.tw11058360295473585622 : True := ⟨⟩
theorem x.tw11073987179921094801 : True := ⟨⟩
theorem x.tw11076620200007558643 : True := ⟨⟩
theorem x.tw11117736389230265696 : True := ⟨⟩
theorem x.tw11122527698286130888 : True := ⟨⟩
theorem x.tw11152097150223382674 : True := ⟨⟩
theorem x.tw11152688277256578661 : True := ⟨⟩
theorem x.tw11168731951259093396 : True := ⟨⟩
theorem x.tw11174138412563079361 : True := ⟨⟩
theorem x.tw1118852592622393843 : True := ⟨⟩
theorem x.tw11198062676181368647 : True := ⟨⟩
theorem x.tw11199771451364095874 : True := ⟨⟩
theorem x.tw11225515923203839203 : True := ⟨⟩
theorem x.tw11238088504442425704 : True := ⟨⟩
theorem x.tw11248508363824571033 : True := ⟨⟩
theorem x.tw11263278172391293508 : True := ⟨⟩
theorem x.tw11279064605270880653 : True := ⟨⟩
theorem x.tw11369745602893275364 : True := ⟨⟩
theorem x.tw11369977311485414170 : True := ⟨⟩
theorem x.tw11376624967989484925 : True := ⟨⟩
theorem x.tw11385762947692907880 : True := ⟨⟩
theorem x.tw11387121445181443545 : True := ⟨⟩
theorem x.tw1139522334345932651 : True := ⟨⟩
theorem x.tw11402429673782027764 : True := ⟨⟩
theorem x.tw11415569595351489154 : True := ⟨⟩
theorem x.tw11445603533893094434 : True := ⟨⟩
theorem x.tw1144829850153224884 : True := ⟨⟩
theorem x.tw11466565054924377150 : True := ⟨⟩
theorem x.tw11500856643956191634 : True := ⟨⟩
theorem x.tw11501079129989429816 : True := ⟨⟩
theorem x.tw11508047845633804919 : True := ⟨⟩
theorem x.tw11514130945867980463 : True := ⟨⟩
theorem x.tw11540676082647688023 : True := ⟨⟩
theorem x.tw11567505412842260901 : True := ⟨⟩
theorem x.tw11568292430766643722 : True := ⟨⟩
theorem x.tw11588330872536301463 : True := ⟨⟩
theorem x.tw11611806781194692976 : True := ⟨⟩
theorem x.tw11631502445704908054 : True := ⟨⟩
theorem x.tw11658145682694441830 : True := ⟨⟩
theorem x.tw11666928400452752173 : True := ⟨⟩
theorem x.tw11675175551037193828 : True := ⟨⟩
theorem x.tw11683766515358089917 : True := ⟨⟩
theorem x.tw11684907989203289189 : True := ⟨⟩
theorem x.tw11690331266879010249 : True := ⟨⟩
theorem x.tw11764654581784258725 : True := ⟨⟩
theorem x.tw11787529657048152784 : True := ⟨⟩
theorem x.tw11802279843911420041 : True := ⟨⟩
theorem x.tw11823987395372424745 : True := ⟨⟩
theorem x.tw11830229877695963470 : True := ⟨⟩
theorem x.tw11833552190071727148 : True := ⟨⟩
theorem x.tw11871751729808161112 : True := ⟨⟩
theorem x.tw11880967880999230385 : True := ⟨⟩
theorem x.tw11884053099720892034 : True := ⟨⟩
theorem x.tw11899250118809682927 : True := ⟨⟩
theorem x.tw11919879220120795280 : True := ⟨⟩
theorem x.tw1192890095127504860 : True := ⟨⟩
theorem x.tw11937456547947895172 : True := ⟨⟩
theorem x.tw11943456382740636426 : True := ⟨⟩
theorem x.tw11994942440297581398 : True := ⟨⟩
theorem x.tw11996299347161798078 : True := ⟨⟩
theorem x.tw12014736512107744855 : True := ⟨⟩
theorem x.tw12015829838713114192 : True := ⟨⟩
theorem x.tw12034286304829527702 : True := ⟨⟩
theorem x.tw12040675299933851378 : True := ⟨⟩
theorem x.tw12043558742422536071 : True := ⟨⟩
theorem x.tw12063771883288316417 : True := ⟨⟩
theorem x.tw12095768566378557346 : True := ⟨⟩
theorem x.tw12106543564560068109 : True := ⟨⟩
theorem x.tw12115848265970941389 : True := ⟨⟩
theorem x.tw1212350918065989565 : True := ⟨⟩
theorem x.tw12147932751257409608 : True := ⟨⟩
theorem x.tw12235728486688705004 : True := ⟨⟩
theorem x.tw12296006409892390952 : True := ⟨⟩
theorem x.tw1229711680335458679 : True := ⟨⟩
theorem x.tw12300088240222704753 : True := ⟨⟩
theorem x.tw12357257306730215335 : True := ⟨⟩
theorem x.tw12387249792668917091 : True := ⟨⟩
theorem x.tw12401680339523607464 : True := ⟨⟩
theorem x.tw12414323758184252710 : True := ⟨⟩
theorem x.tw12417102548623748003 : True := ⟨⟩
theorem x.tw12417803773081363574 : True := ⟨⟩
theorem x.tw12433876769167609558 : True := ⟨⟩
theorem x.tw12461824860774988985 : True := ⟨⟩
theorem x.tw1247626804567848078 : True := ⟨⟩
theorem x.tw12513421576800688090 : True := ⟨⟩
theorem x.tw12517148705418881219 : True := ⟨⟩
theorem x.tw12549659723121084872 : True := ⟨⟩
theorem x.tw12555855287479064542 : True := ⟨⟩
theorem x.tw12560229906789948698 : True := ⟨⟩
theorem x.tw1257233205287073285 : True := ⟨⟩
theorem x.tw12576640531118671879 : True := ⟨⟩
theorem x.tw12606826729926151742 : True := ⟨⟩
theorem x.tw12609191232514898735 : True := ⟨⟩
theorem x.tw1261695478015965603 : True := ⟨⟩
theorem x.tw12623713826428172572 : True := ⟨⟩
theorem x.tw12667467897150863709 : True := ⟨⟩
theorem x.tw12677298117449053296 : True := ⟨⟩
theorem x.tw12682732008687886618 : True := ⟨⟩
theorem x.tw12687207765001723464 : True := ⟨⟩
theorem x.tw12695231409039985498 : True := ⟨⟩
theorem x.tw12699107709310436916 : True := ⟨⟩
theorem x.tw12757561806736355991 : True := ⟨⟩
theorem x.tw12770185064361580724 : True := ⟨⟩
theorem x.tw12772063586948721766 : True := ⟨⟩
theorem x.tw12801387735986694355 : True := ⟨⟩
theorem x.tw12880229461769388268 : True := ⟨⟩
theorem x.tw12924040417176290631 : True := ⟨⟩
theorem x.tw1295649265671579530 : True := ⟨⟩
theorem x.tw12976323709940572926 : True := ⟨⟩
theorem x.tw12988068091606151627 : True := ⟨⟩
theorem x.tw12988179844777574384 : True := ⟨⟩
theorem x.tw1298883752637017309 : True := ⟨⟩
theorem x.tw1300076787649663456 : True := ⟨⟩
theorem x.tw130538918849092870 : True := ⟨⟩
theorem x.tw13072373567515480538 : True := ⟨⟩
theorem x.tw13100875268800688032 : True := ⟨⟩
theorem x.tw13154050192432250830 : True := ⟨⟩
theorem x.tw13157752934955354825 : True := ⟨⟩
theorem x.tw13159493064808514837 : True := ⟨⟩
theorem x.tw13177982274293156645 : True := ⟨⟩
theorem x.tw13195642155748614843 : True := ⟨⟩
theorem x.tw13251144036931346972 : True := ⟨⟩
theorem x.tw13260746430754609968 : True := ⟨⟩
theorem x.tw1326309660327383434 : True := ⟨⟩
theorem x.tw13266402878141357004 : True := ⟨⟩
theorem x.tw13272569447606386707 : True := ⟨⟩
theorem x.tw13293115930929998228 : True := ⟨⟩
theorem x.tw13305670851187372719 : True := ⟨⟩
theorem x.tw13312682460005474109 : True := ⟨⟩
theorem x.tw1334268059701816870 : True := ⟨⟩
theorem x.tw13348930880337077077 : True := ⟨⟩
theorem x.tw13367855428709287406 : True := ⟨⟩
theorem x.tw13404080080569854418 : True := ⟨⟩
theorem x.tw13407300215643200283 : True := ⟨⟩
theorem x.tw13440853691466553548 : True := ⟨⟩
theorem x.tw13456645568142478491 : True := ⟨⟩
theorem x.tw13457933466780970126 : True := ⟨⟩
theorem x.tw1345936403204691166 : True := ⟨⟩
theorem x.tw13469742870715572254 : True := ⟨⟩
theorem x.tw13511702388180883722 : True := ⟨⟩
theorem x.tw13522522030172035772 : True := ⟨⟩
theorem x.tw13542536353189975222 : True := ⟨⟩
theorem x.tw13551504561970370338 : True := ⟨⟩
theorem x.tw13553900463325113796 : True := ⟨⟩
theorem x.tw1357455936280884320 : True := ⟨⟩
theorem x.tw13584074256348394474 : True := ⟨⟩
theorem x.tw13624370894366203576 : True := ⟨⟩
theorem x.tw13625478295217002687 : True := ⟨⟩
theorem x.tw13632003978631607906 : True := ⟨⟩
theorem x.tw13636296899779753947 : True := ⟨⟩
theorem x.tw13657006849385425660 : True := ⟨⟩
theorem x.tw13659177719181242965 : True := ⟨⟩
theorem x.tw13674839794870236140 : True := ⟨⟩
theorem x.tw13681343968574968315 : True := ⟨⟩
theorem x.tw13735053738254430823 : True := ⟨⟩
theorem x.tw1373614267705622115 : True := ⟨⟩
theorem x.tw1374736784596642886 : True := ⟨⟩
theorem x.tw13757659492081354683 : True := ⟨⟩
theorem x.tw13789454769466806405 : True := ⟨⟩
theorem x.tw13797414173028888658 : True := ⟨⟩
theorem x.tw13811061989629086199 : True := ⟨⟩
theorem x.tw13821323436051582525 : True := ⟨⟩
theorem x.tw13832632893340788903 : True := ⟨⟩
theorem x.tw13840182939540048279 : True := ⟨⟩
theorem x.tw138818021482363064 : True := ⟨⟩
theorem x.tw13895047746455341852 : True := ⟨⟩
theorem x.tw13911296529826804998 : True := ⟨⟩
theorem x.tw13918332231222703035 : True := ⟨⟩
theorem x.tw13925600040897096018 : True := ⟨⟩
theorem x.tw13947031381092725593 : True := ⟨⟩
theorem x.tw13951148102435905966 : True := ⟨⟩
theorem x.tw13960735009925813186 : True := ⟨⟩
theorem x.tw1396802460559073154 : True := ⟨⟩
theorem x.tw13983588808995212183 : True := ⟨⟩
theorem x.tw13995897299514615827 : True := ⟨⟩
theorem x.tw14019320674832518962 : True := ⟨⟩
theorem x.tw14024943833869067894 : True := ⟨⟩
theorem x.tw14041107077159195503 : True := ⟨⟩
theorem x.tw14049712161128359713 : True := ⟨⟩
theorem x.tw14051697836500468376 : True := ⟨⟩
theorem x.tw14055956709092989468 : True := ⟨⟩
theorem x.tw14076521286267364487 : True := ⟨⟩
theorem x.tw14124624998836057355 : True := ⟨⟩
theorem x.tw14130357893715708048 : True := ⟨⟩
theorem x.tw14143842208165419045 : True := ⟨⟩
theorem x.tw14147076092355701796 : True := ⟨⟩
theorem x.tw1415931316942132513 : True := ⟨⟩
theorem x.tw14187321722309295380 : True := ⟨⟩
theorem x.tw14189246566264011863 : True := ⟨⟩
theorem x.tw14209563519764628652 : True := ⟨⟩
theorem x.tw14213247233974016716 : True := ⟨⟩
theorem x.tw14231542307434920384 : True := ⟨⟩
theorem x.tw14235843712577062258 : True := ⟨⟩
theorem x.tw14304275671176217830 : True := ⟨⟩
theorem x.tw14325202314570962906 : True := ⟨⟩
theorem x.tw14368359798748637774 : True := ⟨⟩
theorem x.tw14376287575076472005 : True := ⟨⟩
theorem x.tw143903524971119014 : True := ⟨⟩
theorem x.tw14391522486415727291 : True := ⟨⟩
theorem x.tw14411759535298899986 : True := ⟨⟩
theorem x.tw14419240016014430285 : True := ⟨⟩
theorem x.tw14424337600021883475 : True := ⟨⟩
theorem x.tw14459138281301350951 : True := ⟨⟩
theorem x.tw14495197485289896433 : True := ⟨⟩
theorem x.tw14527931800672545638 : True := ⟨⟩
theorem x.tw14546518366564765657 : True := ⟨⟩
theorem x.tw14552328166487684793 : True := ⟨⟩
theorem x.tw14610293940217180299 : True := ⟨⟩
theorem x.tw14621089452471173696 : True := ⟨⟩
theorem x.tw14642426259713327964 : True := ⟨⟩
theorem x.tw14650118311285502376 : True := ⟨⟩
theorem x.tw14662017234343769399 : True := ⟨⟩
theorem x.tw14673781219992178918 : True := ⟨⟩
theorem x.tw1468916251158154124 : True := ⟨⟩
theorem x.tw14731015455150100329 : True := ⟨⟩
theorem x.tw14766882862815897751 : True := ⟨⟩
theorem x.tw1477827691589033132 : True := ⟨⟩
theorem x.tw14816229990928203272 : True := ⟨⟩
theorem x.tw14835176278874222419 : True := ⟨⟩
theorem x.tw14860364026049536479 : True := ⟨⟩
theorem x.tw14885434959297060227 : True := ⟨⟩
theorem x.tw1488858200101515262 : True := ⟨⟩
theorem x.tw14892279302759909154 : True := ⟨⟩
theorem x.tw14919199542837875690 : True := ⟨⟩
theorem x.tw14926828108353419501 : True := ⟨⟩
theorem x.tw14939703982172950363 : True := ⟨⟩
theorem x.tw14951374556745515212 : True := ⟨⟩
theorem x.tw14968422421466759419 : True := ⟨⟩
theorem x.tw14973763326131262070 : True := ⟨⟩
theorem x.tw15015625979705167600 : True := ⟨⟩
theorem x.tw15042997727991662869 : True := ⟨⟩
theorem x.tw15045456295326089932 : True := ⟨⟩
theorem x.tw15045959462451963267 : True := ⟨⟩
theorem x.tw1506152792931969288 : True := ⟨⟩
theorem x.tw15079091284657969264 : True := ⟨⟩
theorem x.tw15084608744830333848 : True := ⟨⟩
theorem x.tw15097296950320027351 : True := ⟨⟩
theorem x.tw15100461006478070828 : True := ⟨⟩
theorem x.tw15110536615514007946 : True := ⟨⟩
theorem x.tw15124994039739642421 : True := ⟨⟩
theorem x.tw15150889340220902564 : True := ⟨⟩
theorem x.tw15173670186626919165 : True := ⟨⟩
theorem x.tw15186336224708085983 : True := ⟨⟩
theorem x.tw15189604770913195686 : True := ⟨⟩
theorem x.tw15220237197934278472 : True := ⟨⟩
theorem x.tw1522788409887322740 : True := ⟨⟩
theorem x.tw15239906933619265814 : True := ⟨⟩
theorem x.tw15245849869452018419 : True := ⟨⟩
theorem x.tw15291912424312321969 : True := ⟨⟩
theorem x.tw15345275921918013925 : True := ⟨⟩
theorem x.tw15364625721253283965 : True := ⟨⟩
theorem x.tw15365430251381188535 : True := ⟨⟩
theorem x.tw15381246816113792436 : True := ⟨⟩
theorem x.tw15390180340666898618 : True := ⟨⟩
theorem x.tw15413583522491053374 : True := ⟨⟩
theorem x.tw15424426376055524763 : True := ⟨⟩
theorem x.tw15431238697594745997 : True := ⟨⟩
theorem x.tw15442105258966996918 : True := ⟨⟩
theorem x.tw15460409358483588172 : True := ⟨⟩
theorem x.tw15463307242940609706 : True := ⟨⟩
theorem x.tw15467777442375258450 : True := ⟨⟩
theorem x.tw1547508298962110977 : True := ⟨⟩
theorem x.tw15527180630925447279 : True := ⟨⟩
theorem x.tw15533313513226432012 : True := ⟨⟩
theorem x.tw15566559617231922470 : True := ⟨⟩
theorem x.tw15573391669532525266 : True := ⟨⟩
theorem x.tw15583775511102383754 : True := ⟨⟩
theorem x.tw15606782457214070813 : True := ⟨⟩
theorem x.tw15618312535156415978 : True := ⟨⟩
theorem x.tw1564430462950590789 : True := ⟨⟩
theorem x.tw15673946835371951760 : True := ⟨⟩
theorem x.tw15678699275516499568 : True := ⟨⟩
theorem x.tw15694333413365712200 : True := ⟨⟩
theorem x.tw15697136923583208866 : True := ⟨⟩
theorem x.tw15745935162226931066 : True := ⟨⟩
theorem x.tw15748826475244354759 : True := ⟨⟩
theorem x.tw15760408904987761211 : True := ⟨⟩
theorem x.tw15770187537463389305 : True := ⟨⟩
theorem x.tw15814378279618657997 : True := ⟨⟩
theorem x.tw15838593766393169685 : True := ⟨⟩
theorem x.tw15905799082542046966 : True := ⟨⟩
theorem x.tw15937048449461287244 : True := ⟨⟩
theorem x.tw15960217252020907611 : True := ⟨⟩
theorem x.tw15975107149030320425 : True := ⟨⟩
theorem x.tw16014090570766219715 : True := ⟨⟩
theorem x.tw16023688934287272225 : True := ⟨⟩
theorem x.tw16034253340644606952 : True := ⟨⟩
theorem x.tw16039018268013285082 : True := ⟨⟩
theorem x.tw16040622176275991977 : True := ⟨⟩
theorem x.tw16044349837289093929 : True := ⟨⟩
theorem x.tw16071080503814483969 : True := ⟨⟩
theorem x.tw16117550303755211452 : True := ⟨⟩
theorem x.tw16124165753812819439 : True := ⟨⟩
theorem x.tw16134119792862658547 : True := ⟨⟩
theorem x.tw16171945164727132587 : True := ⟨⟩
theorem x.tw16193708197277403873 : True := ⟨⟩
theorem x.tw16196183541000773128 : True := ⟨⟩
theorem x.tw16219133078508084671 : True := ⟨⟩
theorem x.tw16223593320909980816 : True := ⟨⟩
theorem x.tw16270199588131027503 : True := ⟨⟩
theorem x.tw16274932193239452227 : True := ⟨⟩
theorem x.tw16301126859146522986 : True := ⟨⟩
theorem x.tw16312127453373237007 : True := ⟨⟩
theorem x.tw16341128310026868239 : True := ⟨⟩
theorem x.tw16343485113875459693 : True := ⟨⟩
theorem x.tw16344940085568571254 : True := ⟨⟩
theorem x.tw16381651940214206014 : True := ⟨⟩
theorem x.tw16407658361398169443 : True := ⟨⟩
theorem x.tw16433449930090206801 : True := ⟨⟩
theorem x.tw16442757948604090946 : True := ⟨⟩
theorem x.tw16488970652353990780 : True := ⟨⟩
theorem x.tw1650961186228935553 : True := ⟨⟩
theorem x.tw16530866331073812311 : True := ⟨⟩
theorem x.tw16535902035416175553 : True := ⟨⟩
theorem x.tw16576471290741787817 : True := ⟨⟩
theorem x.tw1657879190619348339 : True := ⟨⟩
theorem x.tw16595615652412573815 : True := ⟨⟩
theorem x.tw16603405557891905340 : True := ⟨⟩
theorem x.tw16617684350325261552 : True := ⟨⟩
theorem x.tw16620959984405672424 : True := ⟨⟩
theorem x.tw1662353425484187019 : True := ⟨⟩
theorem x.tw1662503980915232974 : True := ⟨⟩
theorem x.tw16634823246402461463 : True := ⟨⟩
theorem x.tw16641446679035150526 : True := ⟨⟩
theorem x.tw16649838319151761544 : True := ⟨⟩
theorem x.tw16653143505539422327 : True := ⟨⟩
theorem x.tw16663062122981194292 : True := ⟨⟩
theorem x.tw16675231445544312567 : True := ⟨⟩
theorem x.tw16677397634039180462 : True := ⟨⟩
theorem x.tw16681757536518889665 : True := ⟨⟩
theorem x.tw16682168734414259751 : True := ⟨⟩
theorem x.tw1675796954793303811 : True := ⟨⟩
theorem x.tw16784924497452670408 : True := ⟨⟩
theorem x.tw16787196963380032622 : True := ⟨⟩
theorem x.tw16838607482977884222 : True := ⟨⟩
theorem x.tw16840961854317779801 : True := ⟨⟩
theorem x.tw16868963979869652963 : True := ⟨⟩
theorem x.tw16902231400631128257 : True := ⟨⟩
theorem x.tw16907680863837237588 : True := ⟨⟩
theorem x.tw16933433553694432413 : True := ⟨⟩
theorem x.tw16947352427982325814 : True := ⟨⟩
theorem x.tw16952559125537502030 : True := ⟨⟩
theorem x.tw16977679527214113646 : True := ⟨⟩
theorem x.tw16989305204793095802 : True := ⟨⟩
theorem x.tw17032668355045577270 : True := ⟨⟩
theorem x.tw17060400709428517881 : True := ⟨⟩
theorem x.tw17090399368757476015 : True := ⟨⟩
theorem x.tw17128693038411932882 : True := ⟨⟩
theorem x.tw17133226110308095733 : True := ⟨⟩
theorem x.tw17145665245010286348 : True := ⟨⟩
theorem x.tw17158689840225841457 : True := ⟨⟩
theorem x.tw17203731521321720278 : True := ⟨⟩
theorem x.tw17212148796835136243 : True := ⟨⟩
theorem x.tw17242950417522690955 : True := ⟨⟩
theorem x.tw17265432042891216082 : True := ⟨⟩
theorem x.tw17275957359131114796 : True := ⟨⟩
theorem x.tw17326116484036062586 : True := ⟨⟩
theorem x.tw17331730720173597121 : True := ⟨⟩
theorem x.tw17334005214373140102 : True := ⟨⟩
theorem x.tw1735056877101257368 : True := ⟨⟩
theorem x.tw17388573862496240291 : True := ⟨⟩
theorem x.tw17394527227752172927 : True := ⟨⟩
theorem x.tw17401346062828640596 : True := ⟨⟩
theorem x.tw17403904752215370046 : True := ⟨⟩
theorem x.tw17419387651419486179 : True := ⟨⟩
theorem x.tw174291110116197995 : True := ⟨⟩
theorem x.tw17475809434201488968 : True := ⟨⟩
theorem x.tw17485196219784441310 : True := ⟨⟩
theorem x.tw17493980709996516748 : True := ⟨⟩
theorem x.tw17496645218821445055 : True := ⟨⟩
theorem x.tw17508591134574701350 : True := ⟨⟩
theorem x.tw1753994301465163054 : True := ⟨⟩
theorem x.tw17556134957864280480 : True := ⟨⟩
theorem x.tw17577566077262806468 : True := ⟨⟩
theorem x.tw17582118683515635218 : True := ⟨⟩
theorem x.tw17602094378479523216 : True := ⟨⟩
theorem x.tw1762852492130322403 : True := ⟨⟩
theorem x.tw17654450329316414843 : True := ⟨⟩
theorem x.tw1767159973603763557 : True := ⟨⟩
theorem x.tw17681073886715125845 : True := ⟨⟩
theorem x.tw17688814690812621077 : True := ⟨⟩
theorem x.tw17691347446005402649 : True := ⟨⟩
theorem x.tw17697553771371389610 : True := ⟨⟩
theorem x.tw17728036029897406321 : True := ⟨⟩
theorem x.tw17736318238481371645 : True := ⟨⟩
theorem x.tw17741271170645145644 : True := ⟨⟩
theorem x.tw17742197175958580050 : True := ⟨⟩
theorem x.tw17751287409962625766 : True := ⟨⟩
theorem x.tw17763697576014548745 : True := ⟨⟩
theorem x.tw17860277991289140484 : True := ⟨⟩
theorem x.tw17864899129303756534 : True := ⟨⟩
theorem x.tw17874214885126900397 : True := ⟨⟩
theorem x.tw17875511719909735586 : True := ⟨⟩
theorem x.tw17894082397646807352 : True := ⟨⟩
theorem x.tw17918841234362704929 : True := ⟨⟩
theorem x.tw17957274202332108731 : True := ⟨⟩
theorem x.tw1800494725884142509 : True := ⟨⟩
theorem x.tw18008479044257914710 : True := ⟨⟩
theorem x.tw18009941181672653003 : True := ⟨⟩
theorem x.tw18024763962502070313 : True := ⟨⟩
theorem x.tw18063065604092876888 : True := ⟨⟩
theorem x.tw18070596214659393772 : True := ⟨⟩
theorem x.tw18117607445295989178 : True := ⟨⟩
theorem x.tw18147990316148390285 : True := ⟨⟩
theorem x.tw18148632499684739371 : True := ⟨⟩
theorem x.tw18168152624345011834 : True := ⟨⟩
theorem x.tw18193032549937625168 : True := ⟨⟩
theorem x.tw1821356758316432043 : True := ⟨⟩
theorem x.tw18240647713423042901 : True := ⟨⟩
theorem x.tw18244996135818526801 : True := ⟨⟩
theorem x.tw18256774291305713310 : True := ⟨⟩
theorem x.tw18278118953279031888 : True := ⟨⟩
theorem x.tw18296984681141456412 : True := ⟨⟩
theorem x.tw18312027908723538292 : True := ⟨⟩
theorem x.tw18320398251394606683 : True := ⟨⟩
theorem x.tw18340639294088058121 : True := ⟨⟩
theorem x.tw18344431587121631993 : True := ⟨⟩
theorem x.tw18345324312968066414 : True := ⟨⟩
theorem x.tw18352100373457070722 : True := ⟨⟩
theorem x.tw18369882583402815846 : True := ⟨⟩
theorem x.tw18387751369287724176 : True := ⟨⟩
theorem x.tw18402675771661587021 : True := ⟨⟩
theorem x.tw18408758822977267605 : True := ⟨⟩
theorem x.tw1871380609240391798 : True := ⟨⟩
theorem x.tw1897911926255972164 : True := ⟨⟩
theorem x.tw1902994482729452793 : True := ⟨⟩
theorem x.tw1911525820062306529 : True := ⟨⟩
theorem x.tw1931970673300576702 : True := ⟨⟩
theorem x.tw1940332611835011450 : True := ⟨⟩
theorem x.tw1941840343715867837 : True := ⟨⟩
theorem x.tw1978416429295243028 : True := ⟨⟩
theorem x.tw2030587414725155241 : True := ⟨⟩
theorem x.tw2031537917373578216 : True := ⟨⟩
theorem x.tw2040582256555408047 : True := ⟨⟩
theorem x.tw2049460588245530071 : True := ⟨⟩
theorem x.tw2063319683089624213 : True := ⟨⟩
theorem x.tw2070596085503899165 : True := ⟨⟩
theorem x.tw2080181832756378157 : True := ⟨⟩
theorem x.tw2082430305949409718 : True := ⟨⟩
theorem x.tw2102660879371982782 : True := ⟨⟩
theorem x.tw2158287766650901963 : True := ⟨⟩
theorem x.tw2180225598519881482 : True := ⟨⟩
theorem x.tw2181795950510259404 : True := ⟨⟩
theorem x.tw2184305600173372038 : True := ⟨⟩
theorem x.tw2258973745614765316 : True := ⟨⟩
theorem x.tw227627781121971186 : True := ⟨⟩
theorem x.tw2297875269983110331 : True := ⟨⟩
theorem x.tw2308301581979924532 : True := ⟨⟩
theorem x.tw2311945787878430984 : True := ⟨⟩
theorem x.tw2348609113724625019 : True := ⟨⟩
theorem x.tw2368835534739104391 : True := ⟨⟩
theorem x.tw2430407081202438575 : True := ⟨⟩
theorem x.tw2457097175091800351 : True := ⟨⟩
theorem x.tw2471611124620102619 : True := ⟨⟩
theorem x.tw2488568755365922908 : True := ⟨⟩
theorem x.tw2488616738884206750 : True := ⟨⟩
theorem x.tw2501844482822224543 : True := ⟨⟩
theorem x.tw2503383851743107049 : True := ⟨⟩
theorem x.tw2507432778248182001 : True := ⟨⟩
theorem x.tw2510208313702720416 : True := ⟨⟩
theorem x.tw2526065683336569023 : True := ⟨⟩
theorem x.tw2549776721130494238 : True := ⟨⟩
theorem x.tw2588675918457676648 : True := ⟨⟩
theorem x.tw2618959852397679876 : True := ⟨⟩
theorem x.tw2636657482830861956 : True := ⟨⟩
theorem x.tw2662806063479153118 : True := ⟨⟩
theorem x.tw270242306515167155 : True := ⟨⟩
theorem x.tw2714216656829531595 : True := ⟨⟩
theorem x.tw2720716108018497860 : True := ⟨⟩
theorem x.tw274563715210004352 : True := ⟨⟩
theorem x.tw2760173994756918302 : True := ⟨⟩
theorem x.tw2761511731271996772 : True := ⟨⟩
theorem x.tw2767206698608310293 : True := ⟨⟩
theorem x.tw277378142224398894 : True := ⟨⟩
theorem x.tw2775109412662030053 : True := ⟨⟩
theorem x.tw2803328646562473498 : True := ⟨⟩
theorem x.tw2826027730710671101 : True := ⟨⟩
theorem x.tw2846415535211591788 : True := ⟨⟩
theorem x.tw2877658537131324672 : True := ⟨⟩
theorem x.tw2899202315850720040 : True := ⟨⟩
theorem x.tw2911140017676944113 : True := ⟨⟩
theorem x.tw2914707223782875056 : True := ⟨⟩
theorem x.tw2924872020614974547 : True := ⟨⟩
theorem x.tw2941005166873331770 : True := ⟨⟩
theorem x.tw2942319914191149962 : True := ⟨⟩
theorem x.tw294246093654854766 : True := ⟨⟩
theorem x.tw2968461170794751986 : True := ⟨⟩
theorem x.tw2994759592192515869 : True := ⟨⟩
theorem x.tw3018043995717684545 : True := ⟨⟩
theorem x.tw3038206179391886198 : True := ⟨⟩
theorem x.tw3040722602490607411 : True := ⟨⟩
theorem x.tw3057805363477927155 : True := ⟨⟩
theorem x.tw3065473318952284855 : True := ⟨⟩
theorem x.tw3074589843187163427 : True := ⟨⟩
theorem x.tw3077510870979780067 : True := ⟨⟩
theorem x.tw3086963543650188869 : True := ⟨⟩
theorem x.tw3092863028381169883 : True := ⟨⟩
theorem x.tw3101230554987857852 : True := ⟨⟩
theorem x.tw3123923820325123765 : True := ⟨⟩
theorem x.tw3149319923456874997 : True := ⟨⟩
theorem x.tw3151297232678651169 : True := ⟨⟩
theorem x.tw3173149797293010897 : True := ⟨⟩
theorem x.tw3177274295116890557 : True := ⟨⟩
theorem x.tw3190763850416584886 : True := ⟨⟩
theorem x.tw319455692255987101 : True := ⟨⟩
theorem x.tw3211764470573088002 : True := ⟨⟩
theorem x.tw3230783221590525112 : True := ⟨⟩
theorem x.tw3243053629460465035 : True := ⟨⟩
theorem x.tw3244176093233234941 : True := ⟨⟩
theorem x.tw3248191377198454598 : True := ⟨⟩
theorem x.tw3299604873197239558 : True := ⟨⟩
theorem x.tw3308905312616801974 : True := ⟨⟩
theorem x.tw3316634234911678495 : True := ⟨⟩
theorem x.tw3353582643588911802 : True := ⟨⟩
theorem x.tw3373436845226207081 : True := ⟨⟩
theorem x.tw3378107541518595685 : True := ⟨⟩
theorem x.tw3426142875666511927 : True := ⟨⟩
theorem x.tw3431950901272927768 : True := ⟨⟩
theorem x.tw3451411277532209348 : True := ⟨⟩
theorem x.tw3461889752873945555 : True := ⟨⟩
theorem x.tw3466878022938733119 : True := ⟨⟩
theorem x.tw3478902802156326845 : True := ⟨⟩
theorem x.tw3483121254157424549 : True := ⟨⟩
theorem x.tw3499340534524468525 : True := ⟨⟩
theorem x.tw3527010728461127300 : True := ⟨⟩
theorem x.tw3539669927792657173 : True := ⟨⟩
theorem x.tw3544861720533446463 : True := ⟨⟩
theorem x.tw3562481739686499562 : True := ⟨⟩
theorem x.tw3562602660806328482 : True := ⟨⟩
theorem x.tw3581379214463243804 : True := ⟨⟩
theorem x.tw3600964319371841036 : True := ⟨⟩
theorem x.tw3629681586767258163 : True := ⟨⟩
theorem x.tw365113718263555865 : True := ⟨⟩
theorem x.tw36688575622155945 : True := ⟨⟩
theorem x.tw3698016540019659808 : True := ⟨⟩
theorem x.tw3702372123164513411 : True := ⟨⟩
theorem x.tw3710745936682407702 : True := ⟨⟩
theorem x.tw3738299003506213615 : True := ⟨⟩
theorem x.tw3777421684275937548 : True := ⟨⟩
theorem x.tw3784808607185080859 : True := ⟨⟩
theorem x.tw3810043677469060461 : True := ⟨⟩
theorem x.tw3812816657437889799 : True := ⟨⟩
theorem x.tw3823393467520340937 : True := ⟨⟩
theorem x.tw3828838746399393302 : True := ⟨⟩
theorem x.tw3896083693007571613 : True := ⟨⟩
theorem x.tw3930006089365354099 : True := ⟨⟩
theorem x.tw393024014352931898 : True := ⟨⟩
theorem x.tw3933397803148660768 : True := ⟨⟩
theorem x.tw3947814877680435922 : True := ⟨⟩
theorem x.tw3978212307908992501 : True := ⟨⟩
theorem x.tw3978335419371425541 : True := ⟨⟩
theorem x.tw409880308043201266 : True := ⟨⟩
theorem x.tw4109133943812738124 : True := ⟨⟩
theorem x.tw4125925578015193729 : True := ⟨⟩
theorem x.tw4142613276202127484 : True := ⟨⟩
theorem x.tw4142731763312856665 : True := ⟨⟩
theorem x.tw4153646071993225875 : True := ⟨⟩
theorem x.tw417206069588231276 : True := ⟨⟩
theorem x.tw418252873473075935 : True := ⟨⟩
theorem x.tw4191233239810315137 : True := ⟨⟩
theorem x.tw4202582852131481550 : True := ⟨⟩
theorem x.tw4203466863050935155 : True := ⟨⟩
theorem x.tw425577058982374745 : True := ⟨⟩
theorem x.tw4261340436814100215 : True := ⟨⟩
theorem x.tw4268934477054875608 : True := ⟨⟩
theorem x.tw4298905093436458867 : True := ⟨⟩
theorem x.tw4299154929937433062 : True := ⟨⟩
theorem x.tw432039244419659052 : True := ⟨⟩
theorem x.tw4348193364057241800 : True := ⟨⟩
theorem x.tw4353137785368638991 : True := ⟨⟩
theorem x.tw4361007222548793063 : True := ⟨⟩
theorem x.tw4367896302222888572 : True := ⟨⟩
theorem x.tw4387518869503398209 : True := ⟨⟩
theorem x.tw4392128312716382281 : True := ⟨⟩
theorem x.tw440316659002846147 : True := ⟨⟩
theorem x.tw4418804259831603743 : True := ⟨⟩
theorem x.tw4423329195707834276 : True := ⟨⟩
theorem x.tw444000361798711990 : True := ⟨⟩
theorem x.tw4474282984423862633 : True := ⟨⟩
theorem x.tw4479530833043115076 : True := ⟨⟩
theorem x.tw4496740278892824161 : True := ⟨⟩
theorem x.tw4512897905519885345 : True := ⟨⟩
theorem x.tw4516934810934743915 : True := ⟨⟩
theorem x.tw4543406764029737288 : True := ⟨⟩
theorem x.tw456528623201797445 : True := ⟨⟩
theorem x.tw4617112165116573448 : True := ⟨⟩
theorem x.tw4641803142427275968 : True := ⟨⟩
theorem x.tw4648225922254111375 : True := ⟨⟩
theorem x.tw4654139819506748638 : True := ⟨⟩
theorem x.tw4660150741601667129 : True := ⟨⟩
theorem x.tw466745474754206765 : True := ⟨⟩
theorem x.tw4675603693218244530 : True := ⟨⟩
theorem x.tw4679399053251404263 : True := ⟨⟩
theorem x.tw4714989363750917325 : True := ⟨⟩
theorem x.tw4726649939641546272 : True := ⟨⟩
theorem x.tw4730024251818983634 : True := ⟨⟩
theorem x.tw4730388299294564038 : True := ⟨⟩
theorem x.tw4739464143144798170 : True := ⟨⟩
theorem x.tw4743640957487128714 : True := ⟨⟩
theorem x.tw4759826556922766526 : True := ⟨⟩
theorem x.tw4761723217375040687 : True := ⟨⟩
theorem x.tw4771511689829691791 : True := ⟨⟩
theorem x.tw4774182426475251182 : True := ⟨⟩
theorem x.tw4780103307424448080 : True := ⟨⟩
theorem x.tw4806961304177849951 : True := ⟨⟩
theorem x.tw4809187275179764984 : True := ⟨⟩
theorem x.tw4822198795840634864 : True := ⟨⟩
theorem x.tw4844785656324935117 : True := ⟨⟩
theorem x.tw4882341555376724459 : True := ⟨⟩
theorem x.tw4911223482791158093 : True := ⟨⟩
theorem x.tw4912399117860612664 : True := ⟨⟩
theorem x.tw4925167556210888386 : True := ⟨⟩
theorem x.tw4925957641110838725 : True := ⟨⟩
theorem x.tw4937251303242651148 : True := ⟨⟩
theorem x.tw496178006537666911 : True := ⟨⟩
theorem x.tw49713287916457498 : True := ⟨⟩
theorem x.tw4978509381943206793 : True := ⟨⟩
theorem x.tw498090058691834112 : True := ⟨⟩
theorem x.tw4993708404765194188 : True := ⟨⟩
theorem x.tw5011441950965264555 : True := ⟨⟩
theorem x.tw5042082616862590894 : True := ⟨⟩
theorem x.tw50765603190942054 : True := ⟨⟩
theorem x.tw5090975748541532068 : True := ⟨⟩
theorem x.tw5112799527311628229 : True := ⟨⟩
theorem x.tw5181877257155294223 : True := ⟨⟩
theorem x.tw5184104560716531515 : True := ⟨⟩
theorem x.tw5184122820510404115 : True := ⟨⟩
theorem x.tw5188954137681692320 : True := ⟨⟩
theorem x.tw5275940119117121244 : True := ⟨⟩
theorem x.tw5285631970104304785 : True := ⟨⟩
theorem x.tw5291674161435922711 : True := ⟨⟩
theorem x.tw5300517400190754667 : True := ⟨⟩
theorem x.tw5365906893248945131 : True := ⟨⟩
theorem x.tw5377870506816100167 : True := ⟨⟩
theorem x.tw5392971455435801587 : True := ⟨⟩
theorem x.tw5410891375964392537 : True := ⟨⟩
theorem x.tw5437129122534822810 : True := ⟨⟩
theorem x.tw5437396367860926943 : True := ⟨⟩
theorem x.tw5471686300144291343 : True := ⟨⟩
theorem x.tw54804997478021788 : True := ⟨⟩
theorem x.tw5482030238576338442 : True := ⟨⟩
theorem x.tw5482356631962706735 : True := ⟨⟩
theorem x.tw552954971845551854 : True := ⟨⟩
theorem x.tw5556929860112169100 : True := ⟨⟩
theorem x.tw5576823692980842494 : True := ⟨⟩
theorem x.tw5581037827576068036 : True := ⟨⟩
theorem x.tw5602930417054111180 : True := ⟨⟩
theorem x.tw5609010456626668148 : True := ⟨⟩
theorem x.tw5624581029892550738 : True := ⟨⟩
theorem x.tw5649184971023305162 : True := ⟨⟩
theorem x.tw5654415358209667011 : True := ⟨⟩
theorem x.tw5656114187001241580 : True := ⟨⟩
theorem x.tw5733076695572197108 : True := ⟨⟩
theorem x.tw5734102074270020093 : True := ⟨⟩
theorem x.tw5736272868156047728 : True := ⟨⟩
theorem x.tw5753882423928232700 : True := ⟨⟩
theorem x.tw5772376387604637113 : True := ⟨⟩
theorem x.tw5774059982106895810 : True := ⟨⟩
theorem x.tw5804698522729214953 : True := ⟨⟩
theorem x.tw5808590020691599037 : True := ⟨⟩
theorem x.tw5879566014789606625 : True := ⟨⟩
theorem x.tw5893276544300161504 : True := ⟨⟩
theorem x.tw5943467265330272203 : True := ⟨⟩
theorem x.tw5977407392303757512 : True := ⟨⟩
theorem x.tw5980355764045139545 : True := ⟨⟩
theorem x.tw5992548413746140482 : True := ⟨⟩
theorem x.tw600503873410412233 : True := ⟨⟩
theorem x.tw6015312595506117755 : True := ⟨⟩
theorem x.tw6024237633146544035 : True := ⟨⟩
theorem x.tw6036964401814348313 : True := ⟨⟩
theorem x.tw6044441613383836518 : True := ⟨⟩
theorem x.tw605381577233133848 : True := ⟨⟩
theorem x.tw6061010052563500775 : True := ⟨⟩
theorem x.tw6081628855365183206 : True := ⟨⟩
theorem x.tw6123255989475841923 : True := ⟨⟩
theorem x.tw6141249230691549057 : True := ⟨⟩
theorem x.tw6164925503713636432 : True := ⟨⟩
theorem x.tw6177858976038286452 : True := ⟨⟩
theorem x.tw6181100229063968245 : True := ⟨⟩
theorem x.tw6206153861464176707 : True := ⟨⟩
theorem x.tw6216037086288334870 : True := ⟨⟩
theorem x.tw6217951716010286405 : True := ⟨⟩
theorem x.tw6236227899424071977 : True := ⟨⟩
theorem x.tw6267709692559021615 : True := ⟨⟩
theorem x.tw6285597482471829586 : True := ⟨⟩
theorem x.tw6290921284420106355 : True := ⟨⟩
theorem x.tw6291270798720393738 : True := ⟨⟩
theorem x.tw6345953086543602152 : True := ⟨⟩
theorem x.tw6349404652468058197 : True := ⟨⟩
theorem x.tw6388240242455705752 : True := ⟨⟩
theorem x.tw6404580509180692667 : True := ⟨⟩
theorem x.tw6414911629305127539 : True := ⟨⟩
theorem x.tw644647642328969693 : True := ⟨⟩
theorem x.tw646386202733373619 : True := ⟨⟩
theorem x.tw651032402726104214 : True := ⟨⟩
theorem x.tw651055884809626906 : True := ⟨⟩
theorem x.tw652140677145011976 : True := ⟨⟩
theorem x.tw6526140490419829660 : True := ⟨⟩
theorem x.tw6534115796685660426 : True := ⟨⟩
theorem x.tw6539401764719334992 : True := ⟨⟩
theorem x.tw6546621369630335857 : True := ⟨⟩
theorem x.tw6566157677153951082 : True := ⟨⟩
theorem x.tw6626372317466925969 : True := ⟨⟩
theorem x.tw6627392688554552786 : True := ⟨⟩
theorem x.tw6636379785725748586 : True := ⟨⟩
theorem x.tw6661592024722365367 : True := ⟨⟩
theorem x.tw6689323484488534535 : True := ⟨⟩
theorem x.tw6692482469353546723 : True := ⟨⟩
theorem x.tw6710643045880684166 : True := ⟨⟩
theorem x.tw6715582631108203782 : True := ⟨⟩
theorem x.tw6736559863499733144 : True := ⟨⟩
theorem x.tw6741919372446279876 : True := ⟨⟩
theorem x.tw6759392236005662302 : True := ⟨⟩
theorem x.tw6767476802192174378 : True := ⟨⟩
theorem x.tw6799859588104022867 : True := ⟨⟩
theorem x.tw6800242406732067763 : True := ⟨⟩
theorem x.tw6839295894439959123 : True := ⟨⟩
theorem x.tw6858793815429618512 : True := ⟨⟩
theorem x.tw686485073701017565 : True := ⟨⟩
theorem x.tw6929816814765896908 : True := ⟨⟩
theorem x.tw6946233028526211146 : True := ⟨⟩
theorem x.tw6963639386135523632 : True := ⟨⟩
theorem x.tw6989446947585797888 : True := ⟨⟩
theorem x.tw6991744096467702674 : True := ⟨⟩
theorem x.tw6995121177932976223 : True := ⟨⟩
theorem x.tw6995881870545690752 : True := ⟨⟩
theorem x.tw6999109686575529093 : True := ⟨⟩
theorem x.tw700693766434587172 : True := ⟨⟩
theorem x.tw7063472838863333608 : True := ⟨⟩
theorem x.tw7089773832308013656 : True := ⟨⟩
theorem x.tw7123253501315159090 : True := ⟨⟩
theorem x.tw7129902274911853188 : True := ⟨⟩
theorem x.tw7154660803688209970 : True := ⟨⟩
theorem x.tw7158884164066108494 : True := ⟨⟩
theorem x.tw7198153593115949043 : True := ⟨⟩
theorem x.tw7221472846242033544 : True := ⟨⟩
theorem x.tw7233621406569614028 : True := ⟨⟩
theorem x.tw723635094470745061 : True := ⟨⟩
theorem x.tw7284495432789486367 : True := ⟨⟩
theorem x.tw730117447106464839 : True := ⟨⟩
theorem x.tw7303956687886619315 : True := ⟨⟩
theorem x.tw7307578555418857894 : True := ⟨⟩
theorem x.tw7330704383911361091 : True := ⟨⟩
theorem x.tw7338171149653478835 : True := ⟨⟩
theorem x.tw7352610295427127359 : True := ⟨⟩
theorem x.tw7358013361742234465 : True := ⟨⟩
theorem x.tw7367044692127031712 : True := ⟨⟩
theorem x.tw7381862425806050828 : True := ⟨⟩
theorem x.tw7389875310830528806 : True := ⟨⟩
theorem x.tw7437978874721659629 : True := ⟨⟩
theorem x.tw7454299920706803588 : True := ⟨⟩
theorem x.tw748082582737996775 : True := ⟨⟩
theorem x.tw7513677060411270235 : True := ⟨⟩
theorem x.tw7518089445212344763 : True := ⟨⟩
theorem x.tw7559125970190141524 : True := ⟨⟩
theorem x.tw7620439114524771159 : True := ⟨⟩
theorem x.tw7626620491692186694 : True := ⟨⟩
theorem x.tw7647776443608310212 : True := ⟨⟩
theorem x.tw7670066692240471240 : True := ⟨⟩
theorem x.tw7675252825468871827 : True := ⟨⟩
theorem x.tw7687100253586816798 : True := ⟨⟩
theorem x.tw7736968067393406997 : True := ⟨⟩
theorem x.tw774568968758142895 : True := ⟨⟩
theorem x.tw7757827936117748691 : True := ⟨⟩
theorem x.tw7786383420094719546 : True := ⟨⟩
theorem x.tw781744882029526689 : True := ⟨⟩
theorem x.tw7851465932976235069 : True := ⟨⟩
theorem x.tw7857180285829313160 : True := ⟨⟩
theorem x.tw7900561403994041939 : True := ⟨⟩
theorem x.tw7931352663654689671 : True := ⟨⟩
theorem x.tw7932533990442072677 : True := ⟨⟩
theorem x.tw7950437633729951555 : True := ⟨⟩
theorem x.tw7968301412382077451 : True := ⟨⟩
theorem x.tw8008398115293277242 : True := ⟨⟩
theorem x.tw804541984203314574 : True := ⟨⟩
theorem x.tw8055779327185426309 : True := ⟨⟩
theorem x.tw8123675110872671843 : True := ⟨⟩
theorem x.tw8129337695813753353 : True := ⟨⟩
theorem x.tw8240234686514626197 : True := ⟨⟩
theorem x.tw8273695067123487791 : True := ⟨⟩
theorem x.tw8275940422212164360 : True := ⟨⟩
theorem x.tw8295769145949407962 : True := ⟨⟩
theorem x.tw8352813448428776763 : True := ⟨⟩
theorem x.tw8354809705143952458 : True := ⟨⟩
theorem x.tw8360906728388021042 : True := ⟨⟩
theorem x.tw8443062703205946743 : True := ⟨⟩
theorem x.tw8475325069730936740 : True := ⟨⟩
theorem x.tw8483333946443995097 : True := ⟨⟩
theorem x.tw8497670450549754436 : True := ⟨⟩
theorem x.tw8504720548237666298 : True := ⟨⟩
theorem x.tw8531953543385938971 : True := ⟨⟩
theorem x.tw855200012024981694 : True := ⟨⟩
theorem x.tw8604549171934135040 : True := ⟨⟩
theorem x.tw8604951737876342204 : True := ⟨⟩
theorem x.tw8649147109174109368 : True := ⟨⟩
theorem x.tw870185465585380173 : True := ⟨⟩
theorem x.tw8719130420221826889 : True := ⟨⟩
theorem x.tw871963694191388570 : True := ⟨⟩
theorem x.tw8731219726873627875 : True := ⟨⟩
theorem x.tw8734826188242008997 : True := ⟨⟩
theorem x.tw8736992419225296177 : True := ⟨⟩
theorem x.tw8766568584493570577 : True := ⟨⟩
theorem x.tw8770850211004502190 : True := ⟨⟩
theorem x.tw8784093219092706638 : True := ⟨⟩
theorem x.tw8834734013172818746 : True := ⟨⟩
theorem x.tw8901674274748371404 : True := ⟨⟩
theorem x.tw8915487677836490091 : True := ⟨⟩
theorem x.tw8920650396671210815 : True := ⟨⟩
theorem x.tw8938286246435785386 : True := ⟨⟩
theorem x.tw894071049226696195 : True := ⟨⟩
theorem x.tw8956922662521677391 : True := ⟨⟩
theorem x.tw8959821899895261879 : True := ⟨⟩
theorem x.tw8992772703540217566 : True := ⟨⟩
theorem x.tw8995400846783383538 : True := ⟨⟩
theorem x.tw9066077841748542883 : True := ⟨⟩
theorem x.tw9084636662999748164 : True := ⟨⟩
theorem x.tw9087499442634988833 : True := ⟨⟩
theorem x.tw9095761204093048882 : True := ⟨⟩
theorem x.tw9131185167794927594 : True := ⟨⟩
theorem x.tw9138989458084366262 : True := ⟨⟩
theorem x.tw9139255790431897975 : True := ⟨⟩
theorem x.tw918223081665066280 : True := ⟨⟩
theorem x.tw9185333269093378783 : True := ⟨⟩
theorem x.tw9211107121760531915 : True := ⟨⟩
theorem x.tw9211440058168996849 : True := ⟨⟩
theorem x.tw9223267820108774465 : True := ⟨⟩
theorem x.tw9231790131148921777 : True := ⟨⟩
theorem x.tw9253478511937957935 : True := ⟨⟩
theorem x.tw9275346360590289224 : True := ⟨⟩
theorem x.tw9279794183649285674 : True := ⟨⟩
theorem x.tw9314955600995567879 : True := ⟨⟩
theorem x.tw9335506418633193063 : True := ⟨⟩
theorem x.tw9337014910289677166 : True := ⟨⟩
theorem x.tw9385763043660645162 : True := ⟨⟩
theorem x.tw9391212608485198696 : True := ⟨⟩
theorem x.tw9395590017629532570 : True := ⟨⟩
theorem x.tw9414052845115507666 : True := ⟨⟩
theorem x.tw9430903384709548213 : True := ⟨⟩
theorem x.tw9447722492385198688 : True := ⟨⟩
theorem x.tw9448835805518694676 : True := ⟨⟩
theorem x.tw9451162314616978583 : True := ⟨⟩
theorem x.tw9471003062986669584 : True := ⟨⟩
theorem x.tw9474660433887755057 : True := ⟨⟩
theorem x.tw9480095717765075729 : True := ⟨⟩
theorem x.tw9480908233335186302 : True := ⟨⟩
theorem x.tw9512345847452006689 : True := ⟨⟩
theorem x.tw9523723680188670232 : True := ⟨⟩
theorem x.tw9538734771886776428 : True := ⟨⟩
theorem x.tw9554136453516785481 : True := ⟨⟩
theorem x.tw9557492619550179002 : True := ⟨⟩
theorem x.tw9579657653914677203 : True := ⟨⟩
theorem x.tw9587714538241670347 : True := ⟨⟩
theorem x.tw9616533626679607072 : True := ⟨⟩
theorem x.tw9627400730210963951 : True := ⟨⟩
theorem x.tw9641343744173839510 : True := ⟨⟩
theorem x.tw9645276540263768721 : True := ⟨⟩
theorem x.tw9652982682397368998 : True := ⟨⟩
theorem x.tw9654468477003612155 : True := ⟨⟩
theorem x.tw9658676814213485022 : True := ⟨⟩
theorem x.tw9681011096729601053 : True := ⟨⟩
theorem x.tw9713188542265932139 : True := ⟨⟩
theorem x.tw9715274367083955807 : True := ⟨⟩
theorem x.tw9734139578838640468 : True := ⟨⟩
theorem x.tw974576807944425255 : True := ⟨⟩
theorem x.tw9821561836590550044 : True := ⟨⟩
theorem x.tw9830154569453304969 : True := ⟨⟩
theorem x.tw9848155634628773349 : True := ⟨⟩
theorem x.tw9858674147946454049 : True := ⟨⟩
theorem x.tw9863660933247112656 : True := ⟨⟩
theorem x.tw9869490871272542277 : True := ⟨⟩
theorem x.tw9890069902645596872 : True := ⟨⟩
theorem x.tw9910429298768363764 : True := ⟨⟩
theorem x.tw9928674796114105660 : True := ⟨⟩
theorem x.tw9967297903219515893 : True := ⟨⟩
theorem x.tw9989011559646604282 : True := ⟨⟩

set_option Elab.async true in
theorem x : PySem.Challenge.rw_ik0013_01.Holds := by
  w_on
  o_law
  k_head
  (case hw => w_witness2)
  have F : Facts x.heap_1_39 := {
    gLaw := fun P => by kernel_rfl
    gClause := fun P => by kernel_rfl
    gTold := fun P => by kernel_rfl
    gOrder := fun P => by kernel_rfl
    gSettings := fun P => by kernel_rfl
    gHolds := fun P => by kernel_rfl
    gStruck := fun P => by kernel_rfl
    gFil := fun P => by kernel_rfl
    gFF := fun P => by kernel_rfl
    tLaw := fun X => ⟨_, _, _, _, isT_K 670 24 X (by kernel_rfl) (by kernel_rfl) (by kernel_rfl) (by kernel_rfl) (by kernel_rfl)⟩
    tClause := fun X => ⟨_, _, _, _, isT_K 636 18 X (by kernel_rfl) (by kernel_rfl) (by kernel_rfl) (by kernel_rfl) (by kernel_rfl)⟩
    tTold := fun X => ⟨_, _, _, _, isT_K 650 20 X (by kernel_rfl) (by kernel_rfl) (by kernel_rfl) (by kernel_rfl) (by kernel_rfl)⟩
    tOrder := fun X => ⟨_, _, _, _, isT_K 643 19 X (by kernel_rfl) (by kernel_rfl) (by kernel_rfl) (by kernel_rfl) (by kernel_rfl)⟩
    tSettings := fun X => ⟨_, _, _, _, isT_K 660 22 X (by kernel_rfl) (by kernel_rfl) (by kernel_rfl) (by kernel_rfl) (by kernel_rfl)⟩
    tHolds := fun X => ⟨_, _, _, _, isT_K 665 23 X (by kernel_rfl) (by kernel_rfl) (by kernel_rfl) (by kernel_rfl) (by kernel_rfl)⟩
    tStruck := fun X => ⟨_, _, _, _, isT_K 655 21 X (by kernel_rfl) (by kernel_rfl) (by kernel_rfl) (by kernel_rfl) (by kernel_rfl)⟩
    tFil := fun X => ⟨_, _, _, _, isT_K 65 4 X (by kernel_rfl) (by kernel_rfl) (by kernel_rfl) (by kernel_rfl) (by kernel_rfl)⟩
    t6 := fun X => ⟨_, _, _, _, isT_K 72 6 X (by kernel_rfl) (by kernel_rfl) (by kernel_rfl) (by kernel_rfl) (by kernel_rfl)⟩
    t7 := fun X => ⟨_, _, _, _, isT_K 79 7 X (by kernel_rfl) (by kernel_rfl) (by kernel_rfl) (by kernel_rfl) (by kernel_rfl)⟩
    t10 := fun X => ⟨_, _, _, _, isT_K 93 10 X (by kernel_rfl) (by kernel_rfl) (by kernel_rfl) (by kernel_rfl) (by kernel_rfl)⟩
    nm := fun X T => ⟨Mine.bi X T (by kernel_rfl) (by kernel_rfl) (by decide)⟩
    nm2 := fun X T => ⟨Mine.bi X T (by kernel_rfl) (by kernel_rfl) (by decide), Mine.bi X T (by kernel_rfl) (by kernel_rfl) (by decide), Mine.bi X T (by kernel_rfl) (by kernel_rfl) (by decide), Mine.bi X T (by kernel_rfl) (by kernel_rfl) (by decide)⟩
    nm3 := fun X T => ⟨mg_of X T.g (by kernel_rfl), Mine.bi X T (by kernel_rfl) (by kernel_rfl) (by decide)⟩
    nm4 := fun X T => ⟨Mine.bi X T (by kernel_rfl) (by kernel_rfl) (by decide), Mine.bi X T (by kernel_rfl) (by kernel_rfl) (by decide), Mine.bi X T (by kernel_rfl) (by kernel_rfl) (by decide)⟩
    nm5 := fun X T => ⟨Mine.bi X T (by kernel_rfl) (by kernel_rfl) (by decide), Mine.bi X T (by kernel_rfl) (by kernel_rfl) (by decide), Mine.bi X T (by kernel_rfl) (by kernel_rfl) (by decide), Mine.bi X T (by kernel_rfl) (by kernel_rfl) (by decide), mg_of X T.g (by kernel_rfl)⟩
    nm6 := fun X T => ⟨Mine.bi X T (by kernel_rfl) (by kernel_rfl) (by decide), mg_of X T.g (by kernel_rfl), mg_of X T.g (by kernel_rfl), Mine.bi X T (by kernel_rfl) (by kernel_rfl) (by decide)⟩
    nmS := fun X T => Mine.bi X T (by kernel_rfl) (by kernel_rfl) (by decide)
    nmT := fun X T => Mine.bi X T (by kernel_rfl) (by kernel_rfl) (by decide)
    buf := fun P => ⟨by kernel_rfl, by kernel_rfl, by kernel_rfl, by kernel_rfl, by kernel_rfl, by kernel_rfl⟩
    pos := fun P => ⟨by kernel_rfl, by kernel_rfl, by kernel_rfl, by kernel_rfl, by kernel_rfl, by kernel_rfl⟩
    chk := fun P => ⟨by kernel_rfl, by kernel_rfl, by kernel_rfl⟩
    read := fun P => ⟨by kernel_rfl, by kernel_rfl, by kernel_rfl⟩
    mchk := fun X => ⟨_, _, _, _, _, isM_K 174 15 2 .none X (by kernel_rfl) (by kernel_rfl) (by kernel_rfl) (by kernel_rfl) (by kernel_rfl)⟩
    mread := fun {P _} X => ⟨_, _, _, _, _, isM_K 304 15 20 (.ref (tdOf (x.heap_1_39 P) 304)) X (by kernel_rfl) (by kernel_rfl) (by kernel_rfl) (by kernel_rfl) (by kernel_rfl)⟩
    tread := fun P => by kernel_rfl
    tinit := fun P => by kernel_rfl
    minit := fun X => isMeth_K X (by kernel_rfl) (by kernel_rfl) (by kernel_rfl) (by kernel_rfl) (by kernel_rfl)
    keep := fun P => by kernel_rfl
    keepF := fun P => by kernel_rfl
    ff := fun X => {
      X := X
      mks := by kernel_rfl
      init := by kernel_rfl
      initF := by kernel_rfl
      iter := by kernel_rfl
      iterF := by kernel_rfl
      next := by kernel_rfl
      nextF := by kernel_rfl
      len := by kernel_rfl
      hint := by kernel_rfl
      sa := by kernel_rfl
      po := by kernel_rfl
      cls := by kernel_rfl
      pg₁ := by kernel_rfl
      fi₁ := by kernel_rfl
      sp₁ := by kernel_rfl
      tk₁ := by kernel_rfl
      sl₁ := by kernel_rfl
      ta₁ := by kernel_rfl
      ty₁ := by kernel_rfl
      pg₀ := by kernel_rfl
      fi₀ := by kernel_rfl
      sp₀ := by kernel_rfl
      tk₀ := by kernel_rfl
      sl₀ := by kernel_rfl
      ta₀ := by kernel_rfl
      ty₀ := by kernel_rfl
      dI := isMeth_K X (by kernel_rfl) (by kernel_rfl) (by kernel_rfl) (by kernel_rfl) (by kernel_rfl)
      dT := isMeth_K X (by kernel_rfl) (by kernel_rfl) (by kernel_rfl) (by kernel_rfl) (by kernel_rfl)
      dN := isMeth_K X (by kernel_rfl) (by kernel_rfl) (by kernel_rfl) (by kernel_rfl) (by kernel_rfl) }
    bf := fun X => {
      X := X
      obj := clsOk_of X (by kernel_rfl)
      call := by kernel_rfl
      typ := by kernel_rfl
      self := by kernel_rfl
      top := by kernel_rfl
      made := fun _ _ _ X => Looks.of_peek X (by kernel_rfl)
      base := fun _ _ _ X => Looks.of_peek X (by kernel_rfl)
      reads := by kernel_rfl
      new := by kernel_rfl
      stat := by kernel_rfl
      init := by kernel_rfl
      initF := by kernel_rfl
      dN := isMeth_K X (by kernel_rfl) (by kernel_rfl) (by kernel_rfl) (by kernel_rfl) (by kernel_rfl) } }
  intro w s₀ s₁ mg mb G Y fa o pm cd doc dV kV ho hdo hcd hD hmg hg args vals as hpre hlay hrd hwl hlo
  have KX := kIn_of Y
  refine Ground.open G ?_
  intro T B D TE TW
  clear D
  have h670 := mg_of KX T.g (F.gLaw _)
  have hfa : fa = 670 := by
    have := hmg.symm.trans h670
    cases this; rfl
  subst hfa
  clear hdo hcd hD
  wrow_args hpre hlay hrd hwl hlo
  rename_i hL ra w1 r0 hI hr hc1 hc2
  refine F.walk KX T hL hI (by omega) fun B' s' y => ?_
  obtain ⟨⟨h', tk, rfl⟩, kp, _⟩ := y
  have kk : ∀ b o, s₁.heap.get? b = some o → h'.get? b = some o := fun b o e => kp.keep b o (fun hm => nomatch hm) e
  refine GoodW.toG ⟨.inl ⟨_, .bool true, [], rfl, ?_, ?_, ?_, ?_⟩, kk, rfl, ?_⟩
  · exact fun cls => rfl
  · first | exact .bool | constructor | exact ReadsW.bool _
  · first | kernel_rfl | with_unfolding_all rfl
  · intro q; exact ⟨List.nodup_nil, fun a ha => nomatch ha⟩
  · first | rfl | exact hg
end Mine

end
theorem PySem.Challenge.cw_ik0013_01_holds : PySem.Challenge.rw_ik0013_01.Holds := by
  exact Mine.x
