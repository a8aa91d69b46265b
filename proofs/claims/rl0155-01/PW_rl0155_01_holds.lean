import PyProof.Rows.All
import Wide.All
import OpenK.AllK
import Wide.FinOn
import PySem.Challenge.RW_rl0155_01
open PySem PySem.W PyProof.Rows PySem.Calls
set_option Elab.async false
set_option maxRecDepth 100000
set_option maxHeartbeats 8000000
set_option linter.unusedVariables false
set_option compiler.extract_closed false
namespace Mine

/-- what a text's def is -/
structure DefP where
  name : Str
  params : Arguments
  body : List Stmt
  scope : Scope

def defAt (p : Program) (i : Nat) : DefP := match p.main.body[i]? with
  | some (.FunctionDef name args body _ _ _ scope _ _ _) => ⟨name, args, body, scope⟩
  | _ => ⟨Str.empty, { posonlyargs := [], args := [], vararg := none, kwonlyargs := [], kw_defaults := [], kwarg := none, defaults := [] }, [], default⟩

def FnAt (mg : Str → Option Value) (h : Heap) (d : DefP) : Prop :=
  ∃ a o pm cd doc, mg d.name = some (.ref a) ∧ h.get? a = some o ∧ o.data = .func (docDef d.name d.params d.body d.scope pm cd doc) ∧ h.CodeRec cd d.name

theorem FnAt.keeps {mg : Str → Option Value} {h h' : Heap} {d : DefP} (x : FnAt mg h d) (k : h.StaysIn h') : FnAt mg h' d := by
  obtain ⟨a, o, pm, cd, doc, h1, h2, h3, h4⟩ := x
  exact ⟨a, o, pm, cd, doc, h1, k _ _ h2, h3, h4.keeps k⟩

def digitsArr : Array UInt8 := #[97, 98, 99, 100, 101, 102, 103, 104, 105, 106, 107, 108, 109, 110, 111, 112, 113, 114, 115, 116, 117, 118, 119, 120, 121, 122, 48, 49, 50, 51, 52, 53, 54, 55, 56, 57]

def bltNames : List Str := ["len", "range", "bytearray", "bytes", "enumerate", "isinstance", "str", "memoryview", "ord", "chr", "sorted", "max", "sum", "divmod"]

structure Gl (p : Program) (n : Nat) (mg mb : Str → Option Value) (h : Heap) : Prop where
  g : h.Ns mainGlobals mg
  b : h.Ns builtinsNs mb
  nolimit : h.NoLimit
  blt : ∀ x : Str, x ≠ "__name__" → mb x = bootBuiltins x
  free : ∀ x ∈ bltNames, mg x = none
  fn : ∀ i < n, (match p.main.body[i]? with | some (.FunctionDef ..) => true | _ => false) = true → FnAt mg h (defAt p i)
  digits : ∃ t, mg "digits" = some (.bytes digitsArr t)

theorem Gl.keeps {p : Program} {n : Nat} {mg mb : Str → Option Value} {h h' : Heap} (G : Gl p n mg mb h) (k : h.StaysIn h') : Gl p n mg mb h' :=
  ⟨G.g.keeps k, G.b.keeps k, G.nolimit.keeps k, G.blt, G.free, fun i hi e => (G.fn i hi e).keeps k, G.digits⟩


theorem StaysIn.refl (h : Heap) : h.StaysIn h := fun _ _ e => e
theorem StaysIn.trans {a b c : Heap} (x : a.StaysIn b) (y : b.StaysIn c) : a.StaysIn c := fun p o e => y p o (x p o e)
theorem Keeps.le {s s' : Shared} (k : Keeps s s') : s.heap.StaysIn s'.heap := by
  obtain ⟨h', tk, rfl, k⟩ := k; exact k
theorem Keeps.mk' {s s' : Shared} (k : s.heap.StaysIn s'.heap) (e : s'.gens = s.gens ∧ s'.drawn = s.drawn ∧ s'.os = s.os) : Keeps s s' := by
  obtain ⟨h, g, d, t, o⟩ := s
  obtain ⟨h', g', d', t', o'⟩ := s'
  obtain ⟨rfl, rfl, rfl⟩ := e
  exact ⟨h', t', rfl, k⟩
theorem Keeps.same {s s' : Shared} (k : Keeps s s') : s'.gens = s.gens ∧ s'.drawn = s.drawn ∧ s'.os = s.os := by
  obtain ⟨h', tk, rfl, k⟩ := k; exact ⟨rfl, rfl, rfl⟩
theorem Keeps.rfl' (s : Shared) : Keeps s s := Keeps.mk' (StaysIn.refl _) ⟨rfl, rfl, rfl⟩
theorem Keeps.trans {s s' s'' : Shared} (k : Keeps s s') (k' : Keeps s' s'') : Keeps s s'' :=
  Keeps.mk' (StaysIn.trans (Keeps.le k) (Keeps.le k')) ⟨(Keeps.same k').1.trans (Keeps.same k).1, (Keeps.same k').2.1.trans (Keeps.same k).2.1, (Keeps.same k').2.2.trans (Keeps.same k).2.2⟩
theorem Keeps.toks {s : Shared} {n : Nat} : Keeps s { s with toks := n } := Keeps.mk' (StaysIn.refl _) ⟨rfl, rfl, rfl⟩
theorem Keeps.push {s : Shared} {n : Nat} (o : Obj) : Keeps s { s with heap := s.heap.push o, toks := n } := Keeps.mk' (fun _ _ e => Heap.get?_push_of_some _ e) ⟨rfl, rfl, rfl⟩

/-- a part of a heap -/
noncomputable def only (h : Heap) (P : Addr → Prop) : Heap :=
  { h with objs := h.objs.mapIdx fun i o => @ite Obj (P i) (Classical.propDecidable _) o { o with data := .freed } }
theorem only_iff {h : Heap} {P : Addr → Prop} {a : Addr} {o : Obj} : (only h P).get? a = some o ↔ P a ∧ h.get? a = some o := by
  rw [Heap.get?_some_iff, Heap.get?_some_iff]
  show (h.objs.mapIdx _)[a]? = some o ∧ _ ↔ _
  rw [Array.getElem?_mapIdx]
  cases e : h.objs[a]? with
  | none => simp
  | some x =>
    by_cases p : P a
    · simp only [Option.map_some, if_pos p]; simp [p]
    · simp only [Option.map_some, if_neg p]
      constructor
      · rintro ⟨q, f⟩; cases q; simp [Obj.isFreed] at f
      · rintro ⟨q, _⟩; exact absurd q p
theorem only_le {h : Heap} {P : Addr → Prop} : (only h P).StaysIn h := fun _ _ e => (only_iff.mp e).2

/-- from s with the known part b the run came to s' with the known part b' -/
structure Ex (s : Shared) (b : Heap) (s' : Shared) (b' : Heap) : Prop where
  keep : Keeps s s'
  up : b.StaysIn b'
  le : b'.StaysIn s'.heap
  new : ∀ a o, b'.get? a = some o → b.get? a = some o ∨ s.heap.get? a = none

theorem Ex.trans {s s' s'' : Shared} {b b' b'' : Heap} (x : Ex s b s' b') (y : Ex s' b' s'' b'') : Ex s b s'' b'' where
  keep := Keeps.trans x.keep y.keep
  up := StaysIn.trans x.up y.up
  le := y.le
  new := fun a o e => by
    rcases y.new a o e with e | e
    · exact x.new a o e
    · right
      cases q : s.heap.get? a with
      | none => rfl
      | some o' => rw [Keeps.le x.keep _ _ q] at e; cases e
theorem Ex.keeps {s s' : Shared} {b : Heap} (le : b.StaysIn s.heap) (k : Keeps s s') : Ex s b s' b := ⟨k, StaysIn.refl _, StaysIn.trans le (Keeps.le k), fun _ _ e => .inl e⟩
/-- one new thing becomes known -/
theorem Ex.know {s s' : Shared} {b : Heap} {a : Addr} (le : b.StaysIn s.heap) (k : Keeps s s') (n : s.heap.get? a = none) : Ex s b s' (only s'.heap fun x => (∃ o, b.get? x = some o) ∨ x = a) where
  keep := k
  up := fun p o e => only_iff.mpr ⟨.inl ⟨o, e⟩, Keeps.le k _ _ (le _ _ e)⟩
  le := only_le
  new := fun p o e => by
    obtain ⟨h, e⟩ := only_iff.mp e
    rcases h with ⟨o', h⟩ | rfl
    · have := Keeps.le k _ _ (le _ _ h); rw [e] at this; cases this; exact .inl h
    · exact .inr n

/-- the frame at hand: b is known and stays, own is what this call may turn -/
structure Fm (s₀ : Shared) (b₀ b : Heap) (L : Addr) (own : List (Addr × Obj)) (m : Str → Option Value) (s : Shared) : Prop where
  ns : s.heap.Ns L m
  ex : Ex s₀ b₀ s b
  outL : s₀.heap.get? L = none ∧ b.get? L = none
  has : ∀ p ∈ own, s.heap.get? p.1 = some p.2 ∧ s₀.heap.get? p.1 = none ∧ b.get? p.1 = none ∧ p.1 ≠ L
  dis : own.Pairwise (fun p q => p.1 ≠ q.1)

section
variable {s₀ : Shared} {b₀ b b' : Heap} {L : Addr} {own : List (Addr × Obj)} {m : Str → Option Value} {s s' : Shared}

theorem Fm.le (F : Fm s₀ b₀ b L own m s) : b.StaysIn s.heap := F.ex.le
theorem Ex.out {a : Addr} {o : Obj} (x : Ex s b s' b') (h : s.heap.get? a = some o) (hb : b.get? a = none) : b'.get? a = none := by
  cases e : b'.get? a with
  | none => rfl
  | some o' =>
    rcases x.new _ _ e with e | e
    · rw [hb] at e; cases e
    · rw [h] at e; cases e
theorem Fm.call (F : Fm s₀ b₀ b L own m s) (x : Ex s b s' b') : Fm s₀ b₀ b' L own m s' := by
  have kl := Keeps.le x.keep
  obtain ⟨oL, _, _, hL, _⟩ := F.ns
  exact ⟨F.ns.keeps kl, F.ex.trans x, ⟨F.outL.1, x.out hL F.outL.2⟩,
    fun p hp => ⟨kl _ _ (F.has p hp).1, (F.has p hp).2.1, x.out (F.has p hp).1 (F.has p hp).2.2.1, (F.has p hp).2.2.2⟩, F.dis⟩
theorem Fm.keeps (F : Fm s₀ b₀ b L own m s) (k : Keeps s s') : Fm s₀ b₀ b L own m s' := F.call (Ex.keeps F.le k)
theorem Fm.toks (F : Fm s₀ b₀ b L own m s) {n : Nat} : Fm s₀ b₀ b L own m { s with toks := n } := F.keeps Keeps.toks
theorem Fm.push (F : Fm s₀ b₀ b L own m s) (o : Obj) : Fm s₀ b₀ b L own m { s with heap := s.heap.push o } := F.keeps (Keeps.mk' (fun _ _ e => Heap.get?_push_of_some _ e) ⟨rfl, rfl, rfl⟩)

theorem keep_turn {a : Addr} {h' : Heap} {n : Nat} (k : Keeps s₀ s) (h : s₀.heap.get? a = none) (hs : Heap.ExtBut a s.heap h') : Keeps s₀ { s with heap := h', toks := n } :=
  Keeps.mk' (fun p o e => hs p o (fun q => by rw [q, h] at e; cases e) (Keeps.le k p o e)) ⟨(Keeps.same k).1, (Keeps.same k).2.1, (Keeps.same k).2.2⟩
theorem Ex.turn {a : Addr} {h' : Heap} {n : Nat} (x : Ex s₀ b₀ s b) (h : s₀.heap.get? a = none) (hb : b.get? a = none) (hs : Heap.ExtBut a s.heap h') : Ex s₀ b₀ { s with heap := h', toks := n } b where
  keep := keep_turn x.keep h hs
  up := x.up
  le := fun p o e => hs p o (fun q => by rw [q, hb] at e; cases e) (x.le p o e)
  new := x.new

theorem Fm.set {m' : Str → Option Value} {h' : Heap} {n : Nat} (F : Fm s₀ b₀ b L own m s) (hn : h'.Ns L m') (hs : Heap.SameBut L s.heap h') : Fm s₀ b₀ b L own m' { s with heap := h', toks := n } :=
  ⟨hn, F.ex.turn F.outL.1 F.outL.2 hs.extBut, F.outL, fun p hp => ⟨(hs.2 p.1 (F.has p hp).2.2.2).trans (F.has p hp).1, (F.has p hp).2⟩, F.dis⟩

theorem Fm.ltL (F : Fm s₀ b₀ b L own m s) : L < s.heap.objs.size := F.ns.lt
theorem Fm.ltOwn (F : Fm s₀ b₀ b L own m s) {p : Addr × Obj} (hp : p ∈ own) : p.1 < s.heap.objs.size := Heap.lt_size (F.has p hp).1
theorem none_size {h : Heap} : h.get? h.objs.size = none := by
  cases e : h.get? h.objs.size with
  | none => rfl
  | some o => exact absurd (Heap.lt_size e) (Nat.lt_irrefl _)
theorem none_up {h h' : Heap} {a : Addr} (k : h.StaysIn h') (e : h'.get? a = none) : h.get? a = none := by
  cases q : h.get? a with
  | none => rfl
  | some o => rw [k _ _ q] at e; cases e

/-- a new thing that the call will turn -/
theorem Fm.pushOwn (F : Fm s₀ b₀ b L own m s) (o : Obj) (hf : o.isFreed = false) : Fm s₀ b₀ b L ((s.heap.objs.size, o) :: own) m { s with heap := s.heap.push o } := by
  have G := F.push o
  refine ⟨G.ns, G.ex, G.outL, fun p hp => ?_, List.pairwise_cons.mpr ⟨fun q hq e => ?_, G.dis⟩⟩
  · rcases List.mem_cons.mp hp with rfl | hp
    · exact ⟨Heap.get?_push_size _ hf, none_up (Keeps.le F.ex.keep) none_size, none_up F.le none_size, Nat.ne_of_gt F.ltL⟩
    · exact G.has p hp
  · have := F.ltOwn hq; rw [← e] at this; exact Nat.lt_irrefl _ this
/-- as pushOwn, at any new place -/
theorem Fm.newOwn {a : Addr} {o : Obj} (F : Fm s₀ b₀ b L own m s) (k : Keeps s s') (n : s.heap.get? a = none) (h : s'.heap.get? a = some o) : Fm s₀ b₀ b L ((a, o) :: own) m s' := by
  have G := F.keeps k
  obtain ⟨oL, _, _, hL, _⟩ := F.ns
  refine ⟨G.ns, G.ex, G.outL, fun p hp => ?_, List.pairwise_cons.mpr ⟨fun q hq e => ?_, G.dis⟩⟩
  · rcases List.mem_cons.mp hp with rfl | hp
    · exact ⟨h, none_up (Keeps.le F.ex.keep) n, none_up F.le n, fun e => by dsimp only at e; subst e; rw [hL] at n; cases n⟩
    · exact G.has p hp
  · dsimp only at e; subst e; rw [(F.has q hq).1] at n; cases n
/-- a new thing that stays -/
theorem Fm.know {a : Addr} (F : Fm s₀ b₀ b L own m s) (k : Keeps s s') (n : s.heap.get? a = none) : Fm s₀ b₀ (only s'.heap fun x => (∃ o, b.get? x = some o) ∨ x = a) L own m s' :=
  F.call (Ex.know F.le k n)
/-- own forgotten -/
theorem Fm.drop {p : Addr × Obj} (F : Fm s₀ b₀ b L (p :: own) m s) : Fm s₀ b₀ b L own m s :=
  ⟨F.ns, F.ex, F.outL, fun q hq => F.has q (List.mem_cons_of_mem _ hq), (List.pairwise_cons.mp F.dis).2⟩
theorem Fm.perm {own' : List (Addr × Obj)} (F : Fm s₀ b₀ b L own m s) (h : own.Perm own') : Fm s₀ b₀ b L own' m s :=
  ⟨F.ns, F.ex, F.outL, fun q hq => F.has q (h.mem_iff.mpr hq), (h.pairwise_iff fun a => Ne.symm a).mp F.dis⟩
theorem Fm.swap {p q : Addr × Obj} (F : Fm s₀ b₀ b L (p :: q :: own) m s) : Fm s₀ b₀ b L (q :: p :: own) m s := F.perm (List.Perm.swap ..)
/-- own becomes known -/
theorem Fm.freeze {a : Addr} {o : Obj} (F : Fm s₀ b₀ b L ((a, o) :: own) m s) :
    Fm s₀ b₀ (only s.heap fun x => (∃ o, b.get? x = some o) ∨ x = a) L own m s ∧ b.StaysIn (only s.heap fun x => (∃ o, b.get? x = some o) ∨ x = a) ∧ (only s.heap fun x => (∃ o, b.get? x = some o) ∨ x = a).get? a = some o := by
  obtain ⟨h1, h2, h3, h4⟩ := F.has _ List.mem_cons_self
  have up : b.StaysIn (only s.heap fun x => (∃ o, b.get? x = some o) ∨ x = a) := fun p o e => only_iff.mpr ⟨.inl ⟨o, e⟩, F.le _ _ e⟩
  have dis := List.pairwise_cons.mp F.dis
  have out : ∀ x o, x ≠ a → b.get? x = none → (only s.heap fun x => (∃ o, b.get? x = some o) ∨ x = a).get? x ≠ some o := fun x o ne e q => by
    rcases (only_iff.mp q).1 with ⟨o', e'⟩ | e'
    · rw [e] at e'; cases e'
    · exact ne e'
  refine ⟨⟨F.ns, ⟨F.ex.keep, StaysIn.trans F.ex.up up, only_le, fun x o e => ?_⟩, ⟨F.outL.1, Option.eq_none_iff_forall_ne_some.mpr fun o => out _ _ (Ne.symm h4) F.outL.2⟩, fun p hp => ?_, dis.2⟩, up, only_iff.mpr ⟨.inr rfl, h1⟩⟩
  · obtain ⟨q, e⟩ := only_iff.mp e
    rcases q with ⟨o', q⟩ | rfl
    · have := F.le _ _ q; rw [e] at this; cases this; exact F.ex.new _ _ q
    · exact .inr h2
  · have P := F.has p (List.mem_cons_of_mem _ hp)
    exact ⟨P.1, P.2.1, Option.eq_none_iff_forall_ne_some.mpr fun o => out _ _ (Ne.symm (dis.1 p hp)) P.2.2.1, P.2.2.2⟩

/-- the first of own turned, things may be made beside -/
theorem Fm.updE {r : Addr} {o o' : Obj} {h' : Heap} {n : Nat} (F : Fm s₀ b₀ b L ((r, o) :: own) m s) (hs : Heap.ExtBut r s.heap h') (he : h'.get? r = some o') : Fm s₀ b₀ b L ((r, o') :: own) m { s with heap := h', toks := n } := by
  have R := F.has (r, o) List.mem_cons_self
  have D := List.pairwise_cons.mp F.dis
  refine ⟨?_, F.ex.turn R.2.1 R.2.2.1 hs, F.outL, fun p hp => ?_, List.pairwise_cons.mpr ⟨fun q hq => D.1 q hq, D.2⟩⟩
  · obtain ⟨oL, es, ep, hL, r'⟩ := F.ns
    exact ⟨oL, es, ep, hs L _ (Ne.symm R.2.2.2) hL, r'⟩
  · rcases List.mem_cons.mp hp with rfl | hp
    · exact ⟨he, R.2⟩
    · have P := F.has p (List.mem_cons_of_mem _ hp)
      exact ⟨hs p.1 _ (Ne.symm (D.1 p hp)) P.1, P.2⟩
theorem Fm.upd {r : Addr} {o o' : Obj} {h' : Heap} {n : Nat} (F : Fm s₀ b₀ b L ((r, o) :: own) m s) (hs : Heap.SameBut r s.heap h') (he : h'.get? r = some o') : Fm s₀ b₀ b L ((r, o') :: own) m { s with heap := h', toks := n } :=
  F.updE hs.extBut he
/-- the first of own turned and given up -/
theorem Fm.updDrop {r : Addr} {o : Obj} {h' : Heap} {n : Nat} (F : Fm s₀ b₀ b L ((r, o) :: own) m s) (hs : Heap.ExtBut r s.heap h') : Fm s₀ b₀ b L own m { s with heap := h', toks := n } := by
  have R := F.has (r, o) List.mem_cons_self
  have D := List.pairwise_cons.mp F.dis
  refine ⟨?_, F.ex.turn R.2.1 R.2.2.1 hs, F.outL, fun p hp => ?_, D.2⟩
  · obtain ⟨oL, es, ep, hL, r'⟩ := F.ns
    exact ⟨oL, es, ep, hs L _ (Ne.symm R.2.2.2) hL, r'⟩
  · have P := F.has p (List.mem_cons_of_mem _ hp)
    exact ⟨hs p.1 _ (Ne.symm (D.1 p hp)) P.1, P.2⟩
theorem Fm.hd {r : Addr} {o : Obj} (F : Fm s₀ b₀ b L ((r, o) :: own) m s) : s.heap.get? r = some o := (F.has _ List.mem_cons_self).1
end

def upd (m : Str → Option Value) (x : Str) (v : Value) : Str → Option Value := fun y => if y = x then some v else m y
def nomap : Str → Option Value := fun _ => none
theorem look_here {x : Str} {v : Value} {m : Str → Option Value} : upd m x v x = some v := if_pos rfl
theorem look_there {x x' : Str} {v v' : Value} {m : Str → Option Value} (h : (x' == x) = false) (hm : m x' = some v') : upd m x v x' = some v' := by
  have : ¬ x' = x := fun e => by rw [e] at h; simp at h
  show (if x' = x then some v else m x') = some v'
  rw [if_neg this]; exact hm
theorem binds_snoc {l : List (Str × Value)} {a : Str} {v : Value} : (fun x => (l ++ [(a, v)]).reverse.lookup x) = upd (fun x => l.reverse.lookup x) a v := by
  funext y
  simp only [List.reverse_append, List.reverse_cons, List.reverse_nil, List.nil_append, List.cons_append, List.lookup_cons]
  show _ = if y = a then _ else _
  by_cases h : y = a
  · simp [h]
  · rw [if_neg h, show (y == a) = false by simpa using h]
theorem binds1 {a : Str} {v : Value} : (fun x => ([(a, v)] : List (Str × Value)).reverse.lookup x) = upd nomap a v := binds_snoc (l := [])
theorem binds2 {a b : Str} {v u : Value} : (fun x => ([(a, v), (b, u)] : List (Str × Value)).reverse.lookup x) = upd (upd nomap a v) b u := (binds_snoc (l := [(a, v)])).trans (by rw [binds1])
theorem binds3 {a b c : Str} {v u x : Value} : (fun z => ([(a, v), (b, u), (c, x)] : List (Str × Value)).reverse.lookup z) = upd (upd (upd nomap a v) b u) c x := (binds_snoc (l := [(a, v), (b, u)])).trans (by rw [binds2])
theorem binds4 {a b c d : Str} {v u x z : Value} : (fun q => ([(a, v), (b, u), (c, x), (d, z)] : List (Str × Value)).reverse.lookup q) = upd (upd (upd (upd nomap a v) b u) c x) d z := (binds_snoc (l := [(a, v), (b, u), (c, x)])).trans (by rw [binds3])


theorem cps {α : Type} {M : Model} {A : Around} {t : Sem α} {Q : α → Shared → Prop} {E : Value → Shared → Prop} {s : Shared} (h : ∀ Q' : α → Shared → Prop, (∀ a s, Q a s → Q' a s) → wpAny M A t Q' E s) : wpAny M A t Q E s := h Q fun _ _ x => x
/-- room: no exception is being handled, n frames may still be opened -/
structure Rm (A : Around) (n : Nat) : Prop where
  handled : A.handled = none
  depth : A.depth + n ≤ 600
  units : A.units + 10 * n ≤ 5000
theorem Rm.deeper {A : Around} {n : Nat} {env : Env} (R : Rm A (n + 1)) : Rm (A.deeper env) n :=
  ⟨R.handled, by have := R.depth; show A.depth + 1 + n ≤ 600; omega, by have := R.units; show A.units + 3 + 10 * n ≤ 5000; omega⟩
theorem Rm.le {A : Around} {n k : Nat} (R : Rm A n) (h : k ≤ n) : Rm A k := ⟨R.handled, by have := R.depth; omega, by have := R.units; omega⟩
theorem Rm.room {A : Around} {n : Nat} (R : Rm A n) : A.depth < recursionLimit := by have := R.depth; unfold recursionLimit; omega
theorem genA {α : Type} {M : Model} {A' : Around} {n : Nat} {t : Sem α} {Q : α → Shared → Prop} {E : Value → Shared → Prop} {s : Shared} (R : Rm A' n) (h : ∀ A, Rm A n → wpAny M A t Q E s) : wpAny M A' t Q E s := h A' R
def IsFn (h : Heap) (a : Addr) (d : DefP) : Prop :=
  ∃ o pm cd doc, h.get? a = some o ∧ o.data = .func (docDef d.name d.params d.body d.scope pm cd doc) ∧ h.CodeRec cd d.name
theorem IsFn.keeps {h h' : Heap} {a : Addr} {d : DefP} (x : IsFn h a d) (k : h.StaysIn h') : IsFn h' a d := by
  obtain ⟨o, pm, cd, doc, h2, h3, h4⟩ := x
  exact ⟨o, pm, cd, doc, k _ _ h2, h3, h4.keeps k⟩

section
variable {prog : Program} {w : World} {A : Around} {E : Value → Shared → Prop} {s : Shared} {env : Env} {s₀ : Shared} {b₀ b : Heap} {L : Addr} {own : List (Addr × Obj)} {m : Str → Option Value}
  {p : Program} {n : Nat} {mg mb : Str → Option Value}

theorem nm_local {x : Str} {pos : Pos} {v : Value} {Q : Value → Shared → Prop} (F : Fm s₀ b₀ b L own m s) (hL : env.locals = L) (hk : env.scope.kind = .function) (hl : env.kindOf x = some .local) (hv : m x = some v)
    (hd : (x == ("__debug__" : Str)) = false) (h : Q v s) : wpAny (model prog w) A (eval (.Name x pos) env) Q E s := by
  subst hL
  exact wpAny_Name (wpAny_loadName_local hk hl F.ns hv h) hd
theorem ln_local {x : Str} {v : Value} {Q : Value → Shared → Prop} (F : Fm s₀ b₀ b L own m s) (hL : env.locals = L) (hk : env.scope.kind = .function) (hl : env.kindOf x = some .local) (hv : m x = some v)
    (h : Q v s) : wpAny (model prog w) A (loadName env x) Q E s := by
  subst hL
  exact wpAny_loadName_local hk hl F.ns hv h
theorem nm_blt {x : Str} {pos : Pos} {v : Value} {Q : Value → Shared → Prop} (F : Fm s₀ b₀ b L own m s) (G : Gl p n mg mb b) (hg : env.globals = mainGlobals) (hb : env.builtins = builtinsNs) (hk : env.scope.kind = .function) (hl : env.kindOf x = some .globalImplicit)
    (hv : bootBuiltins x = some v) (hf : x ∈ bltNames) (hn : (x == ("__name__" : Str)) = false) (hd : (x == ("__debug__" : Str)) = false) (h : Q v s) : wpAny (model prog w) A (eval (.Name x pos) env) Q E s := by
  have G' := G.keeps F.le
  have hn' : x ≠ "__name__" := fun e => by rw [e] at hn; simp at hn
  exact Name_function_global hk hl (loadGlobal_builtin (by rw [hg]; exact G'.g) (G.free x hf) (by rw [hb]; exact G'.b) ((G.blt x hn').trans hv) h) hd
theorem nm_glob {x : Str} {pos : Pos} {v : Value} {Q : Value → Shared → Prop} (F : Fm s₀ b₀ b L own m s) (G : Gl p n mg mb b) (hg : env.globals = mainGlobals) (hk : env.scope.kind = .function) (hl : env.kindOf x = some .globalImplicit)
    (hv : mg x = some v) (hd : (x == ("__debug__" : Str)) = false) (h : Q v s) : wpAny (model prog w) A (eval (.Name x pos) env) Q E s := by
  have G' := G.keeps F.le
  exact Name_function_global hk hl (loadGlobal_global (by rw [hg]; exact G'.g) hv h) hd

theorem c_int {i : Int} {k : Nat} {pos : Pos} {Q : Value → Shared → Prop} (F : Fm s₀ b₀ b L own m s) (h : ∀ t s', Fm s₀ b₀ b L own m s' → Q (.int i t) s') : wpAny (model prog w) A (eval (.Constant (.int i) k pos) env) Q E s :=
  wpAny_Constant_int (h _ _ F.toks)
theorem c_str {x : Str} {k : Nat} {pos : Pos} {Q : Value → Shared → Prop} (F : Fm s₀ b₀ b L own m s) (h : ∀ t s', Fm s₀ b₀ b L own m s' → Q (.str x t) s') : wpAny (model prog w) A (eval (.Constant (.str x) k pos) env) Q E s :=
  Constant_str (h _ _ F.toks)

variable {x y : Int} {t u : Tok} {Q : Value → Shared → Prop}
theorem i_add (F : Fm s₀ b₀ b L own m s) (h : ∀ t s', Fm s₀ b₀ b L own m s' → Q (.int (x + y) t) s') : wpAny (model prog w) A (binaryOp .Add (.int x t) (.int y u)) Q E s := add_int (h _ _ F.toks)
theorem i_sub (F : Fm s₀ b₀ b L own m s) (h : ∀ t s', Fm s₀ b₀ b L own m s' → Q (.int (x - y) t) s') : wpAny (model prog w) A (binaryOp .Sub (.int x t) (.int y u)) Q E s := PyProof.Rows.sub_int (h _ _ F.toks)
theorem small_bits {x : Int} (h : x.natAbs < 2 ^ 62) : Builtin.Int.intBits x ≤ 64 := by
  exact PySem.intBits_le_64 (by omega) (by omega)
theorem i_mul (F : Fm s₀ b₀ b L own m s) (hb : y.natAbs < 2 ^ 62 ∨ x.natAbs < 2 ^ 62) (h : ∀ t s', Fm s₀ b₀ b L own m s' → Q (.int (x * y) t) s') : wpAny (model prog w) A (binaryOp .Mult (.int x t) (.int y u)) Q E s :=
  PyProof.Rows.mul_int (h _ _ F.toks) (hb.elim (fun q => PySem.IntMulOk.of_right (small_bits q)) fun q => PySem.IntMulOk.of_left (small_bits q))
theorem i_div (F : Fm s₀ b₀ b L own m s) (h0 : 0 < y) (h1 : y < 1073741824) (h : ∀ t s', Fm s₀ b₀ b L own m s' → Q (.int (x / y) t) s') : wpAny (model prog w) A (binaryOp .FloorDiv (.int x t) (.int y u)) Q E s := by
  refine PyProof.Rows.floordiv_int (by omega) ?_ (Or.inl (PyProof.noPylong_small (by omega)))
  rw [Int.fdiv_eq_ediv_of_nonneg _ (by omega)]; exact h _ _ F.toks
theorem i_mod (F : Fm s₀ b₀ b L own m s) (h0 : 0 < y) (h : ∀ t s', Fm s₀ b₀ b L own m s' → Q (.int (x % y) t) s') : wpAny (model prog w) A (binaryOp .Mod (.int x t) (.int y u)) Q E s := by
  refine PyProof.Rows.mod_int (by omega) ?_
  rw [Int.fmod_eq_emod_of_nonneg _ (by omega)]; exact h _ _ F.toks
theorem i_iadd (F : Fm s₀ b₀ b L own m s) (h : ∀ t s', Fm s₀ b₀ b L own m s' → Q (.int (x + y) t) s') : wpAny (model prog w) A (inplaceOp .Add (.int x t) (.int y u)) Q E s := PyProof.Rows.iadd_int (h _ _ F.toks)
theorem i_idiv (F : Fm s₀ b₀ b L own m s) (h0 : 0 < y) (h1 : y < 1073741824) (h : ∀ t s', Fm s₀ b₀ b L own m s' → Q (.int (x / y) t) s') : wpAny (model prog w) A (inplaceOp .FloorDiv (.int x t) (.int y u)) Q E s := by
  refine PyProof.Rows.ifloordiv_int (by omega) ?_ (Or.inl (PyProof.noPylong_small (by omega)))
  rw [Int.fdiv_eq_ediv_of_nonneg _ (by omega)]; exact h _ _ F.toks
theorem i_neg (F : Fm s₀ b₀ b L own m s) (h : ∀ t s', Fm s₀ b₀ b L own m s' → Q (.int (-x) t) s') : wpAny (model prog w) A (unaryOp .USub (.int x t)) Q E s := PyProof.Rows.neg_int (h _ _ F.toks)

theorem st_name {x : Str} {v : Value} {Q : Unit → Shared → Prop} (F : Fm s₀ b₀ b L own m s) (hL : env.locals = L) (hk : env.scope.kind = .function) (hl : env.kindOf x = some .local)
    (h : ∀ s', Fm s₀ b₀ b L own (upd m x v) s' → Q () s') : wpAny (model prog w) A (storeName env x v) Q E s := by
  subst hL
  exact wpAny_storeName_local hl F.ns (fun h' hn hs => h _ (F.set hn hs)) (by rw [hk]; rfl)

theorem while_rule {test : PySem.Expr} {body orelse : List Stmt} {pos : Pos} {Q : Flow → Shared → Prop} (I : Nat → Shared → Prop)
    (turn : ∀ n s, I n s → ∀ B : Flow → Shared → Prop, (∀ f s₃, (match f with
            | .next | .cont => ∃ m, m < n ∧ I m s₃
            | .brk => Q .next s₃
            | .ret v => Q (.ret v) s₃) → B f s₃) →
      wpAny (model prog w) A (isTrue test env (eval test env)) (fun c s₂ =>
        if c then wpAny (model prog w) A (execs body env) B (fun _ _ => False) s₂
        else wpAny (model prog w) A (execs orelse env) (fun f s₃ => Q f s₃) (fun _ _ => False) s₂)
        (fun _ _ => False) s)
    (n : Nat) (h : I n s) : wpAny (model prog w) A (exec (.While test body orelse pos) env) Q E s := by
  refine wpAny_While (codeAny_whileLoop I (fun n s hI => ?_) n h)
  refine wpAny_mono (turn n s hI (fun f s₃ => match f with | .next | .cont => ∃ m, m < n ∧ I m s₃ | .brk => Q .next s₃ | .ret v => Q (.ret v) s₃) fun _ _ h => h) (fun c s₂ h₂ => ?_) fun _ _ x => x.elim
  cases c with
  | true =>
    simp only [if_true] at h₂ ⊢
    refine wpAny_mono h₂ (fun f s₃ h₃ => ?_) fun _ _ x => x.elim
    cases f <;> exact h₃
  | false =>
    simp only [Bool.false_eq_true, if_false] at h₂ ⊢
    exact wpAny_mono h₂ (fun f s₃ h₃ => h₃) fun _ _ x => x.elim

theorem call_def {d : DefP} {np pos : Pos} {e : PySem.Expr} {rest : List PySem.Expr} {f : Str} (F : Fm s₀ b₀ b L own m s) (G : Gl p n mg mb b) (fn : FnAt mg b d) (hf : f = d.name) (hg : env.globals = mainGlobals) (hk : env.scope.kind = .function)
    (hl : env.kindOf f = some .globalImplicit) (hd : (f == ("__debug__" : Str)) = false)
    (he : eval (.Call (.Name f np) (e :: rest) [] pos) env = (do callWith pos (← eval (.Name f np) env) [] (backTo pos (starEach (e :: rest) env)) (backToKw pos (keywordEach [] env))))
    (hs : starEach (e :: rest) env = (false, eval e env) :: starEach rest env)
    (h : ∀ a, IsFn b a d → wpAny (model prog w) A (spliced (backTo pos (starEach (e :: rest) env))) (fun vs s₁ => b.StaysIn s₁.heap ∧ wpAny (model prog w) A (call (.ref a) vs) Q E s₁) E s) :
    wpAny (model prog w) A (eval (.Call (.Name f np) (e :: rest) [] pos) env) Q E s := by
  subst hf
  obtain ⟨a, o, pm, cd, doc, h1, h2, h3, h4⟩ := fn
  refine Call_ (nm_glob F G hg hk hl h1 hd ?_) he
  refine callWith_def h3 (wpAny_mono (h a ⟨o, pm, cd, doc, h2, h3, h4⟩) (fun vs s₁ q => ⟨q.1 _ _ h2, q.2⟩) fun _ _ q => q) hs

theorem enter {d : DefP} {a : Addr} {vals : List Value} {binds : List (Str × Value)} (st : b.StaysIn s.heap) (fn : IsFn b a d) (nl : b.NoLimit) (room : A.depth < recursionLimit)
    (hbind : ∀ pm cd doc, bindArgs (docDef d.name d.params d.body d.scope pm cd doc) ⟨vals, []⟩ = pure binds)
    (hloc : (binds.all fun x => decide (d.scope.names.lookup x.1 = some .local)) = true) (hco : d.scope.isCoroutine = false) (hgen : d.scope.isGenerator = false) (hk : d.scope.kind = .function)
    (hcell : (d.scope.names.all fun x => decide (x.2 ≠ .cell)) = true)
    (h : ∀ L cd s₁, Fm s b b L [] (fun x => binds.reverse.lookup x) s₁ → wpAny (model prog w) (A.deeper (envOf d.name d.scope L a cd)) (execs d.body (envOf d.name d.scope L a cd))
      (fun fl s' => Q (match fl with | .ret v => v | _ => .none) s') (fun _ _ => False) s₁) : wpAny (model prog w) A (call (.ref a) vals) Q E s := by
  obtain ⟨o, pm, cd, doc, h2, h3, h4⟩ := fn.keeps st
  refine wpAny_call (call_plain_ret room h2 h3 (nl.keeps st) h4 (hbind _ _ _) (locs hloc) (fun h₁ F => ?_) hco hgen hk (fun x hx => of_decide_eq_true (List.all_eq_true.mp hcell x hx)))
  refine wpAny_mono (h _ cd _ ⟨F.ns, ?_, ?_, fun p hp => (nomatch hp), List.Pairwise.nil⟩) (fun fl s' q => ?_) fun _ _ q => q
  · exact Ex.keeps st (Keeps.mk' F.keep ⟨rfl, rfl, rfl⟩)
  · exact ⟨none_size, none_up st none_size⟩
  · exact q
end

abbrev P : Program := PySem.Challenge.pw_rl0155_01
theorem boot_len : bootBuiltins "len" = some (.builtin "len") := by kernel_rfl
theorem boot_range : bootBuiltins "range" = some (.type "range") := by kernel_rfl
theorem boot_bytearray : bootBuiltins "bytearray" = some (.type "bytearray") := by kernel_rfl
theorem boot_bytes : bootBuiltins "bytes" = some (.type "bytes") := by kernel_rfl
theorem boot_enumerate : bootBuiltins "enumerate" = some (.type "enumerate") := by kernel_rfl
theorem boot_isinstance : bootBuiltins "isinstance" = some (.builtin "isinstance") := by kernel_rfl
theorem boot_str : bootBuiltins "str" = some (.type "str") := by kernel_rfl
theorem boot_memoryview : bootBuiltins "memoryview" = some (.type "memoryview") := by kernel_rfl
theorem boot_ord : bootBuiltins "ord" = some (.builtin "ord") := by kernel_rfl
theorem boot_chr : bootBuiltins "chr" = some (.builtin "chr") := by kernel_rfl
theorem boot_sorted : bootBuiltins "sorted" = some (.builtin "sorted") := by kernel_rfl
theorem boot_divmod : bootBuiltins "divmod" = some (.builtin "divmod") := by kernel_rfl

theorem if_dec {p : Prop} [Decidable p] {X Y : Prop} (h1 : p → X) (h2 : ¬ p → Y) : if decide p = true then X else Y := by
  by_cases h : p
  · rw [if_pos (decide_eq_true h)]; exact h1 h
  · rw [if_neg (by simpa using h)]; exact h2 h
theorem if_bool {b : Bool} {X Y : Prop} (h1 : b = true → X) (h2 : b = false → Y) : if b = true then X else Y := by
  cases b
  · exact h2 rfl
  · exact h1 rfl
theorem if_tt {X Y : Prop} (h : X) : if true = true then X else Y := h
theorem if_ff {X Y : Prop} (h : Y) : if false = true then X else Y := h

section
variable {prog : Program} {w : World} {A : Around} {E : Value → Shared → Prop} {s : Shared} {env : Env} {s₀ : Shared} {b₀ b : Heap} {L : Addr} {own : List (Addr × Obj)} {m : Str → Option Value}
  {x y : Int} {t u : Tok} {Q : Value → Shared → Prop}
theorem i_isub (F : Fm s₀ b₀ b L own m s) (h : ∀ t s', Fm s₀ b₀ b L own m s' → Q (.int (x - y) t) s') : wpAny (model prog w) A (inplaceOp .Sub (.int x t) (.int y u)) Q E s := PyProof.Rows.isub_int (h _ _ F.toks)
theorem q_eq (h : Q (.bool (decide (x = y))) s) : wpAny (model prog w) A (compareOp .Eq (.int x t) (.int y u)) Q E s := PyProof.Rows.eq_int (by rw [show (x == y) = decide (x = y) from by by_cases h : x = y <;> simp [h]]; exact h)
theorem q_lt (h : Q (.bool (decide (x < y))) s) : wpAny (model prog w) A (compareOp .Lt (.int x t) (.int y u)) Q E s := PySem.P.lt_int h
theorem q_le (h : Q (.bool (decide (x ≤ y))) s) : wpAny (model prog w) A (compareOp .LtE (.int x t) (.int y u)) Q E s := PySem.P.le_int h
theorem q_gt (h : Q (.bool (decide (y < x))) s) : wpAny (model prog w) A (compareOp .Gt (.int x t) (.int y u)) Q E s := PyProof.Rows.gt_int h
end

theorem Rm.deep {A : Around} {n : Nat} (R : Rm A (n + 1)) (env : Env) : Rm (A.deeper env) n := R.deeper
theorem seq_cut {prog : Program} {w : World} {A : Around} {E : Value → Shared → Prop} {s : Shared} {env : Env} {st : Stmt} {rest : List Stmt} {Q : Flow → Shared → Prop} (P : Shared → Prop) (h1 : wpAny (model prog w) A (exec st env) (fun f s' => f = .next ∧ P s') (fun _ _ => False) s)
    (h2 : ∀ s', P s' → wpAny (model prog w) A (execs rest env) Q E s') : wpAny (model prog w) A (execs (st :: rest) env) Q E s := by
  refine wpAny_execs_cons (wpAny_mono h1 (fun f s' h => ?_) fun _ _ x => x.elim)
  obtain ⟨rfl, h⟩ := h
  exact h2 _ h
theorem look_int {x : Str} {i j : Int} {t : Tok} {m : Str → Option Value} (h : i = j) : upd m x (.int i t) x = some (.int j t) := by rw [← h]; exact look_here
theorem sub_bytes {prog : Program} {w : World} {A : Around} {E : Value → Shared → Prop} {s : Shared} {s₀ : Shared} {b₀ b : Heap} {L : Addr} {own : List (Addr × Obj)} {m : Str → Option Value} {value slice : PySem.Expr} {x : Array UInt8} {i : Int} {t u : Tok} {Q : Value → Shared → Prop}
    (F : Fm s₀ b₀ b L own m s) (hz : x.size ≤ 1099511627776) (h0 : 0 ≤ i) (h1 : i < x.size) (hs : subscripted slice false (.bytes x t) (.int i u) = operate [.bytes x t, .int i u] (getItem (.bytes x t) (.int i u)))
    (h : ∀ t s', Fm s₀ b₀ b L own m s' → Q (.int (x.getD i.toNat 0).toNat t) s') : wpAny (model prog w) A (subscriptTail value slice (.bytes x t) (.int i u)) Q E s := by
  refine tail_any (PySem.W.typeIs_bytes _ _ _) PySem.W.FB.slot_bytes_getitem.lookup ?_ hs
  have := PySem.W.getItem_bytes (prog := prog) (w := w) (A := A) (E := E) (s := s) (t := t) (u := u) (l := x.toList) (i := i) (Q := Q) (by simpa using hz) h0 (by simpa using h1) ?_
  · simpa using this
  · have e : x.toList.getD i.toNat 0 = x.getD i.toNat 0 := by simp [List.getD, Array.getD_eq_getD_getElem?]
    rw [e]; exact h _ _ F.toks
section
variable {M : Model} {A : Around} {E : Value → Shared → Prop} {s : Shared} {env : Env} {np pos : Pos} {e : PySem.Expr} {rest : List PySem.Expr} {f : Str} {Q : Value → Shared → Prop}
end
theorem if_pos_known {b : Bool} {X Y : Prop} (h : b = true) (hx : X) : if b = true then X else Y := by rw [if_pos h]; exact hx
/-- a code that may hold a bytearray -/
def badCode : Code → Bool
  | .builtin id _ => Builtin.Bytes.decodersThatHold.contains id || ["bytearray.__contains__", "bytearray.__mod__", "bytearray.__rmod__", "_struct.pack_into.held", "bytearray.find.held"].contains id
  | _ => false
def OkC (Γ : Ctx) : Prop := badCode Γ.code = false ∧ Γ.below.any (fun x => badCode x.1) = false
theorem OkC.enter {Γ : Ctx} {c : Code} {h : Option Value} {p : Pos} (x : OkC Γ) (hc : badCode c = false) : OkC (Γ.enter c h p) := by
  refine ⟨hc, ?_⟩
  show ((Γ.code, p) :: Γ.below).any _ = false
  rw [List.any_cons]
  simp [x.1, x.2]
theorem OkC.goto {Γ : Ctx} {c : Code} (x : OkC Γ) (hc : badCode c = false) : OkC (Γ.goto c) := ⟨hc, x.2⟩

/-- wpAny at contexts without such codes -/
def wpK {α : Type} (M : Model) (A : Around) (t : Sem α) (Q : α → Shared → Prop) (E : Value → Shared → Prop) (s : Shared) : Prop :=
  ∀ Γ p, Γ.In A → OkC Γ → Sem.wp M Γ t (fun a _ s' => Q a s') (fun e _ s' => E e s') p s
def codeK (M : Model) (A : Around) (c : Code) (R : Result → Shared → Prop) (s : Shared) : Prop :=
  ∀ Γ p, Γ.code = c → Γ.Below A → OkC Γ → wpCode M Γ R p s

section
variable {α β : Type} {M : Model} {A : Around} {E : Value → Shared → Prop} {s : Shared}
theorem wpK.of {t : Sem α} {Q : α → Shared → Prop} (h : wpAny M A t Q E s) : wpK M A t Q E s := fun Γ p hΓ _ => h Γ p hΓ
theorem wpK.mono {t : Sem α} {Q Q' : α → Shared → Prop} {E' : Value → Shared → Prop} (h : wpK M A t Q E s) (hQ : ∀ a s, Q a s → Q' a s) (hE : ∀ e s, E e s → E' e s) : wpK M A t Q' E' s :=
  fun Γ p hΓ hk => Sem.wp_mono M Γ t (fun a _ s => hQ a s) (fun e _ s => hE e s) p s (h Γ p hΓ hk)
theorem wpK.bind {m : Sem α} {f : α → Sem β} {Q : β → Shared → Prop} (h : wpK M A m (fun a s' => wpK M A (f a) Q E s') E s) : wpK M A (m >>= f) Q E s := fun Γ p hΓ hk => by
  rw [Sem.wp_bind']
  exact Sem.wp_mono M Γ m (fun a p' s' h' => h' Γ p' hΓ hk) (fun _ _ _ h' => h') p s (h Γ p hΓ hk)
theorem wpK.bindA {m : Sem α} {f : α → Sem β} {Q : β → Shared → Prop} (h : wpAny M A m (fun a s' => wpK M A (f a) Q E s') E s) : wpK M A (m >>= f) Q E s := wpK.bind (wpK.of h)
theorem wpK.pure {a : α} {Q : α → Shared → Prop} (h : Q a s) : wpK M A (pure a) Q E s := fun _ _ _ _ => h
theorem wpK.holding {vs : List Value} {m : Sem α} {Q : α → Shared → Prop} (h : wpK M A m Q E s) : wpK M A (holding vs m) Q E s :=
  fun Γ p hΓ hk => by rw [Sem.wp_holding]; exact h Γ p hΓ hk
theorem wpK.onRaise {m : Sem α} {k : Value → Sem Unit} {Q : α → Shared → Prop} (h : wpK M A m Q (fun _ _ => False) s) : wpK M A (m.onRaise k) Q E s := fun Γ p hΓ hk => by
  rw [Sem.wp_onRaise]
  exact Sem.wp_mono M Γ m (fun _ _ _ h' => h') (fun e p' s' h' => h'.elim) p s (h Γ p hΓ hk)
theorem wpK.stack {Q : List (Code × Pos) → Shared → Prop} (h : ∀ l : List (Code × Pos), l.any (fun x => badCode x.1) = false → Q l s) : wpK M A stack Q E s := fun Γ p _ hk => by
  show Q ((Γ.code, p) :: Γ.below) s
  refine h _ ?_
  rw [List.any_cons]
  simp [hk.1, hk.2]

theorem genK {A' : Around} {n : Nat} {t : Sem α} {Q : α → Shared → Prop} (R : Rm A' n) (h : ∀ A, Rm A n → wpK M A t Q E s) : wpK M A' t Q E s := h A' R
theorem cpsK {t : Sem α} {Q : α → Shared → Prop} (h : ∀ Q' : α → Shared → Prop, (∀ a s, Q a s → Q' a s) → wpK M A t Q' E s) : wpK M A t Q E s := h Q fun _ _ x => x
/-- the call tree, but where a bad code stands below True at once -/
def runK (f : Value) (vs : List Value) : Sem Value := do
  let st ← stack
  if st.any (fun x => badCode x.1) = true then Pure.pure (.bool true) else PySem.call f vs
def treeK (name : Str) (vs : List Value) : Sem Fin := do
  let st ← stack
  if st.any (fun x => badCode x.1) = true then ret (.bool true) else (callStub name vs).cur

theorem run_any {f : Value} {vs : List Value} {Q : Value → Shared → Prop} (h : wpK M A (PySem.call f vs) Q E s) (h' : Q (.bool true) s) : wpAny M A (runK f vs) Q E s := fun Γ p hΓ => by
  unfold runK
  rw [Sem.wp_bind']
  show Sem.wp M Γ (if ((Γ.code, p) :: Γ.below).any (fun x => badCode x.1) = true then _ else _) _ _ p s
  cases e : ((Γ.code, p) :: Γ.below).any (fun x => badCode x.1) with
  | true => rw [if_pos rfl]; exact h'
  | false =>
    rw [if_neg (by simp)]
    rw [List.any_cons, Bool.or_eq_false_iff] at e
    exact h Γ p hΓ ⟨e.1, e.2⟩
theorem tree_any {name : Str} {mg : Str → Option Value} {f : Value} {vs : List Value} {Q : Fin → Shared → Prop} (hg : s.heap.Ns mainGlobals mg) (hf : mg name = some f)
    (h : wpAny M A (runK f vs) (fun v s' => Q (.done (.ret v)) s') E s) : wpAny M A (treeK name vs) Q E s := fun Γ p hΓ => by
  have h := h Γ p hΓ
  unfold runK at h
  rw [Sem.wp_bind'] at h
  have h : Sem.wp M Γ (if ((Γ.code, p) :: Γ.below).any (fun x => badCode x.1) = true then Pure.pure (Value.bool true) else PySem.call f vs) (fun v _ s' => Q (.done (.ret v)) s') (fun e _ s' => E e s') p s := h
  unfold treeK
  rw [Sem.wp_bind']
  show Sem.wp M Γ (if ((Γ.code, p) :: Γ.below).any (fun x => badCode x.1) = true then ret (.bool true) else (callStub name vs).cur) _ _ p s
  cases e : ((Γ.code, p) :: Γ.below).any (fun x => badCode x.1) with
  | true => rw [e, if_pos rfl] at h; rw [if_pos rfl]; exact h
  | false =>
    rw [e, if_neg (by simp)] at h
    rw [if_neg (by simp)]
    show Sem.wp M Γ (nsGet mainNs name >>= _) _ _ p s
    rw [Sem.wp_bind']
    show Sem.wp M Γ (nsGet mainGlobals name) _ _ p s
    rw [Sem.wp_nsGet M Γ _ p s hg, hf]
    show Sem.wp M Γ (PySem.call f vs >>= fun v => ret v) _ _ p s
    rw [Sem.wp_bind']
    exact h
end

theorem sched_treeK {prog : Program} {w : World} {name : Str} {vs : List Value} {n : Nat} {s s' : Shared} {o : Outcome} (hz : s.asleep)
    (h : schedN (denote table) prog w n (.single s ⟨treeK name vs, .builtin "claim.caller" {}, default, []⟩) = .halted o s') :
    ∃ n, schedN (denote table) prog w n (.single s (callStub name vs)) = .halted o s' := by
  cases n with
  | zero => cases h
  | succ n =>
    have e : step (denote table) prog w s ⟨treeK name vs, .builtin "claim.caller" {}, default, []⟩ = .go s (callStub name vs) := by
      obtain ⟨hp, g, d, tk, os⟩ := s
      have : (if ([(Code.builtin "claim.caller" {}, (default : Pos))] : List (Code × Pos)).any (fun x => badCode x.1) = true then ret (.bool true) else (callStub name vs).cur) = (callStub name vs).cur := if_neg (by decide +kernel)
      show Step.go _ ⟨(if ([(Code.builtin "claim.caller" {}, (default : Pos))] : List (Code × Pos)).any (fun x => badCode x.1) = true then ret (.bool true) else (callStub name vs).cur), _, _, _⟩ = _
      rw [this]; rfl
    refine ⟨n, ?_⟩
    rcases sstep_single (den := denote table) (prog := prog) (w := w) s ⟨treeK name vs, .builtin "claim.caller" {}, default, []⟩ (by first | rfl | decide +kernel) hz with q | q
    · rw [e] at q
      unfold schedN at h
      rw [q] at h
      exact h
    · rw [e] at q; cases q

theorem openBy_treeK {c : PySem.W.ClaimW} {name : Str} {defs kps : List Str} {writes : Bool}
    (hz : ∀ w s, AfterRun (opening c.prog) w s → ∃ s₀, fenceModules? c.prog s = some s₀ ∧ ∃ s₁, TopRan c.prog w s₀ s₁ ∧ s₁.asleep)
    (h : c.HoldsOpenBy (fun vs => ⟨treeK name vs, .builtin "claim.caller" {}, default, []⟩) defs kps writes) : c.HoldsOpenBy (callStub name) defs kps writes := by
  obtain ⟨h1, h2, h3⟩ := h
  refine ⟨h1, h2, fun w => ⟨(h3 w).1, fun s hs => ?_⟩⟩
  obtain ⟨s₀, a, b, s₁, c1, c2, c3, c4, c5⟩ := (h3 w).2 s hs
  obtain ⟨s₀', z1, s₁', z2, z3⟩ := hz w s hs
  rw [a] at z1; cases z1
  have z : s₁.asleep := Shared.asleep_of_life (c1.2.1.trans z2.2.1.symm) z3
  refine ⟨s₀, a, b, s₁, c1, c2, c3, c4, fun args q1 q2 ord q3 => ?_⟩
  obtain ⟨vs, s₂, d1, n, o, s', d2, d3⟩ := c5 args q1 q2 ord q3
  obtain ⟨n, d2⟩ := sched_treeK (Shared.asleep_of_life (layAllW_rest _ _ _ d1).2.2.2 z) d2
  exact ⟨vs, s₂, d1, n, o, s', d2, d3⟩

/-- as the kit's WalkO, at the contexts of wpK -/
abbrev WalkK (q : Program) (loose : List Str) (XP : (Str → Option Value) → Heap → Prop) (YP : World → Heap → Prop) (r : RowW) (d : DefRec) (kwd : List (Str × Expr)) : Prop :=
  ∀ (w : World) (s₀ s₁ : Shared) (mg mb : Str → Option Value), Ground q loose r.records XP w s₀ mg mb s₁.heap → YP w s₁.heap → ∀ (a : Addr) (o : Obj) (pm cd doc dV kV : Value), s₁.heap.get? a = some o →
    o.data = .func { docDef d.name d.params d.body d.scope pm cd doc with defaults := dV, kwdefaults := kV } → s₁.heap.CodeRec cd d.name → Dflts mg s₁.heap d.params kwd dV kV → mg d.name = some (.ref a) → s₁.gens = #[] →
    ∀ (args : List WData) (vals : List Value) (as : List Addr), r.claim.pre args = true → WData.layableAll args = true → ReadsAllW r.records (classAt s₀.heap) s₁.heap vals args as → WellAll w.params s₁.heap vals args → (∀ a ∈ as, (a == sysModules) = false) →
      GoodWG r.claim (classAt s₀.heap) (ExcName.means s₀.heap) args s₁ (.ok (.ret (.bool true))) s₁ ∧
      wpK (model r.prog w) callerA (PySem.call (.ref a) vals) (fun v s' => GoodWG r.claim (classAt s₀.heap) (ExcName.means s₀.heap) args s₁ (.ok (.ret v)) s')
        (fun e s' => GoodWG r.claim (classAt s₀.heap) (ExcName.means s₀.heap) args s₁ (.error e) s') s₁

/-- the kit's head theorem over wpK -/
theorem holds_openK {r : OpenRow} {q : Program} {loose : List Str} {Xt : Shared → Bool} {XP : (Str → Option Value) → Heap → Prop} {α : Type} {Yf : Shared → α} {Ya : World → α} {YP : World → Heap → Prop} {d : DefRec} {kwd : List (Str × Expr)} {N : Nat}
    (left : LeftO r.prog q loose Xt Yf Ya N) (hY : ∀ w s, Yf s = Ya w → YP w s.heap) (hYk : ∀ w h h', YP w h → (∀ b o, h.get? b = some o → h'.get? b = some o) → YP w h')
    (hX : ∀ s, Xt s = true → XP (s.heap.nsMap mainGlobals) s.heap) (hXk : ∀ mg h h', XP mg h → (∀ b o, h.get? b = some o → h'.get? b = some o) → XP mg h')
    (hdef : defOf q r.name = some (d, kwd)) (hp : r.prog.theDef r.name = some (d.params, d.body, d.scope)) (hk : kwWritten? d.params.kwonlyargs d.params.kw_defaults = some kwd) (hRf : ∀ s, Xt s = true → RecFacts r.records s.heap) (hwr : (!r.writes || r.records.isEmpty) = true)
    (k1 : r.wellSaid = true) (ok : (chainsOk q && opensWell r.prog && (frees r.toRowW && r.within.isEmpty)) = true) (hb : r.prog.bare) (hw : r.toRowW.promised)
    (call : WalkK q loose XP YP r.toRowW d kwd) : r.Holds := by
  refine ⟨k1, hw, openBy_treeK (fun w s hs => ?_) (open_anyG (r := r.toRowW) (run := runK) (tree := treeK r.name) left hY hYk hX hXk hRf hwr ok hb hw
    (fun vs w s mg f Q E hg hf h => tree_any hg hf h) (fun w s hg G n hn => ?_) fun w s₀ s₁ mg mb G Y args vs as hpre hlay L low => ?_)⟩
  · have hch : chainsOk q = true := (Bool.and_eq_true_iff.mp (Bool.and_eq_true_iff.mp ok).1).1
    obtain ⟨s₀, a, _, s₁, c, z, _⟩ := (left.behind (XP := XP) hX hch w).2 s hs
    exact ⟨s₀, a, s₁, c, z⟩
  · obtain rfl : n = r.name := by split at hn <;> simp_all
    exact pinned_of_view hg G hdef hp hk
  · obtain ⟨a, o, pm, cd, doc, dV, kV, h1, h2, h3, h4, h5⟩ := G.fn hdef
    have z := call w s₀ s₁ mg mb G Y a o pm cd doc dV kV h2 h3 h4 h5 (defOf_name hdef ▸ h1) L.gens args vs as hpre hlay L.reads L.well (L.low low)
    exact ⟨.ref a, h1, run_any z.2 z.1⟩
section
variable {prog : Program} {w : World} {A : Around} {E : Value → Shared → Prop} {s : Shared} {env : Env}

theorem codeK.tree {M : Model} {c : Code} {R : Result → Shared → Prop}
    (h : wpK M (A.under c) (M.den c) (fun fin s' => match fin with | .done f => R (.ok f) s' | .again c' => c'.quiet = true ∧ badCode c' = false ∧ codeK M A c' R s') (fun e s' => R (.error e) s') s) : codeK M A c R s := fun Γ p hc hΓ hk => by
  rw [wpCode_iff_wp, hc]
  refine Sem.wp_mono M Γ _ (fun fin p' s' h' => ?_) (fun _ _ _ h' => h') p s (h Γ p (hc ▸ hΓ.in) hk)
  cases fin with
  | done f => exact h'
  | again c' => exact ⟨h'.1, h'.2.2 (Γ.goto c') p' rfl (hΓ.goto c') (hk.goto h'.2.1)⟩
theorem wpK.runValue {M : Model} {c : Code} {Q : Value → Shared → Prop} (hb : badCode c = false)
    (hc : codeK M A c (fun r s' => match r with | .ok (.ret v) => Q v s' | .ok _ => False | .error e => E e s') s) : wpK M A (runValue c) Q E s :=
  fun Γ p hΓ hk => by rw [Sem.wp_runValue]; exact hc _ p rfl (hΓ.enter c none p (by intro x; cases x)) (hk.enter hb)
theorem wpK.call {M : Model} {f : Value} {pos : List Value} {kw : List (Str × Value)} {Q : Value → Shared → Prop}
    (hc : codeK M A (.call f ⟨pos, kw⟩) (fun r s' => match r with | .ok (.ret v) => Q v s' | .ok _ => False | .error e => E e s') s) : wpK M A (PySem.call f pos kw) Q E s := wpK.runValue rfl hc
theorem wpK.runOwn {M : Model} {c : Code} {Q : Flow → Shared → Prop} (hb : badCode c = false) (hc : codeK M A c (fun r s' => match r with | .ok f => Q f s' | .error _ => False) s) : wpK M A (runOwn c env) Q E s := by
  refine wpK.onRaise (k := _) fun Γ p hΓ hk => ?_
  rw [Sem.wp_run]
  refine wpCode_mono (fun r s' q => ?_) (hc (Γ.enter c none p) p rfl (hΓ.enter c none p (by intro x; cases x)) (hk.enter hb))
  cases r <;> exact q

theorem codeK.func {body : List Stmt} {R : Result → Shared → Prop}
    (h : wpK (model prog w) (A.deeper env) (execs body env) (fun f s' => R (.ok (.ret (match f with | .ret v => v | _ => .none))) s') (fun _ _ => False) s) : codeK (model prog w) A (.func body env) R s := by
  refine codeK.tree ?_
  show wpK _ (A.deeper env) (do point; match ← (execs body env).onRaise (leaving env) with | .ret v => ret v | _ => ret .none) _ _ s
  refine wpK.bindA (wpAny_point (wpK.bind (wpK.onRaise (wpK.mono h (fun f s' h' => ?_) fun _ _ h' => h'))))
  cases f <;> exact wpK.pure h'

theorem codeK.function {a : Addr} {args : Args} {o : Obj} {fd : FuncData} {body : List Stmt} {R : Result → Shared → Prop} {binds : List (Str × Value)} (room : A.depth < recursionLimit) (ho : s.heap.get? a = some o)
    (hd : o.data = .func fd) (hco : fd.scope.isCoroutine = false) (hgen : fd.scope.isGenerator = false) (hbody : fd.body = .stmts body) (hcd : s.heap.CodeRec fd.code fd.qualname) (hbind : bindArgs fd args = pure binds)
    (h : wpAny (model prog w) A.in1 (newFunctionEnv fd.scope fd.globals fd.closure binds (fd.qualname ++ ".<locals>.") (some a) fd.code none fd.builtins)
        (fun env s₂ => s₂.heap.NoLimit ∧ codeK (model prog w) A (.func body env) R s₂) (fun _ _ => False) s) : codeK (model prog w) A (.call (.ref a) args) R s := by
  refine codeK.tree ?_
  show wpK _ A.in1 (callAny (.ref a) args) _ _ s
  simp only [callAny]
  refine wpK.bindA (wpAny_load ho ?_)
  obtain ⟨c, oc, vs, tq, hc, hoc, hdc, hq⟩ := hcd
  simp only [hd, callFunction, hco, hgen, hbody, hc, hbind]
  rw [hc] at h
  refine wpK.bindA (m := field (.ref c) 1) (wpAny_field hoc hdc hq (wpK.bindA (wpAny_pure (wpK.bindA (wpAny_pure (wpK.bindA ?_))))))
  exact wpAny_mono h (fun env s₂ h₂ => wpK.bindA (wpAny_enterFrame h₂.1 room (wpK.pure ⟨rfl, rfl, h₂.2⟩))) fun _ _ x => x.elim

theorem enterK {b : Heap} {Q : Value → Shared → Prop} {d : DefP} {a : Addr} {vals : List Value} {binds : List (Str × Value)} (st : b.StaysIn s.heap) (fn : IsFn b a d) (nl : b.NoLimit) (room : A.depth < recursionLimit)
    (hbind : ∀ pm cd doc, bindArgs (docDef d.name d.params d.body d.scope pm cd doc) ⟨vals, []⟩ = pure binds)
    (hloc : (binds.all fun x => decide (d.scope.names.lookup x.1 = some .local)) = true) (hco : d.scope.isCoroutine = false) (hgen : d.scope.isGenerator = false) (hk : d.scope.kind = .function)
    (hcell : (d.scope.names.all fun x => decide (x.2 ≠ .cell)) = true)
    (h : ∀ L cd s₁, Fm s b b L [] (fun x => binds.reverse.lookup x) s₁ → wpK (model prog w) (A.deeper (envOf d.name d.scope L a cd)) (execs d.body (envOf d.name d.scope L a cd))
      (fun fl s' => Q (match fl with | .ret v => v | _ => .none) s') (fun _ _ => False) s₁) : wpK (model prog w) A (PySem.call (.ref a) vals) Q E s := by
  obtain ⟨o, pm, cd, doc, h2, h3, h4⟩ := fn.keeps st
  refine wpK.call (codeK.function room h2 h3 hco hgen rfl h4 (hbind _ _ _) ?_)
  refine wpAny_newFunctionEnv (fun x hx => of_decide_eq_true (List.all_eq_true.mp hcell x hx)) (locs hloc) (fun h₁ hns hsb => ⟨(nl.keeps st).fresh _ hsb, codeK.func (wpK.mono (h s.heap.objs.size cd _ ⟨hns, ?_, ?_, fun p hp => (nomatch hp), List.Pairwise.nil⟩) (fun fl s' q => q) fun _ _ x => x)⟩) hk
  · exact Ex.keeps st (Keeps.mk' (fun b o e => hsb.extBut b o (Nat.ne_of_lt (Heap.lt_size e)) (Heap.get?_push_of_some _ e)) ⟨rfl, rfl, rfl⟩)
  · exact ⟨none_size, none_up st none_size⟩

theorem codeK.loop {M : Model} {c : Code} {R : Result → Shared → Prop} (hq : c.quiet = true) (hb : badCode c = false) (I : Nat → Shared → Prop)
    (turn : ∀ n s, I n s → wpK M (A.under c) (M.den c) (fun fin s' => match fin with | .done f => R (.ok f) s' | .again c' => (c' = c ∧ ∃ m, m < n ∧ I m s') ∨ (c'.quiet = true ∧ badCode c' = false ∧ codeK M A c' R s')) (fun e s' => R (.error e) s') s) :
    ∀ (n : Nat) (s : Shared), I n s → codeK M A c R s := by
  intro n
  induction n using Nat.strongRecOn with
  | ind n ih =>
    intro s h
    refine codeK.tree (wpK.mono (turn n s h) (fun fin s' hf => ?_) fun _ _ x => x)
    cases fin with
    | done f => exact hf
    | again c' =>
      rcases hf with ⟨rfl, m, hm, hI⟩ | hf
      · exact ⟨hq, hb, ih m hm s' hI⟩
      · exact hf

theorem whileK {test : PySem.Expr} {body : List Stmt} {pos : Pos} {Q : Flow → Shared → Prop} (I : Nat → Shared → Prop)
    (turn : ∀ n s, I n s → ∀ B : Flow → Shared → Prop, (∀ f s₃, (match f with
            | .next | .cont => ∃ m, m < n ∧ I m s₃
            | .brk => Q .next s₃
            | .ret v => Q (.ret v) s₃) → B f s₃) → wpAny (model prog w) A (isTrue test env (eval test env)) (fun c s₂ => c = true ∧ wpK (model prog w) A (execs body env) B (fun _ _ => False) s₂) (fun _ _ => False) s)
    (n : Nat) (h : I n s) : wpK (model prog w) A (exec (.While test body [] pos) env) Q E s := by
  rw [exec_While]
  refine wpK.bindA (wpAny_standAt (wpK.runOwn rfl (codeK.loop rfl rfl I (fun n s hI => ?_) n s h)))
  show wpK _ A ((whileTurn test body [] env).onRaise _) _ _ s
  refine wpK.onRaise ?_
  unfold whileTurn
  refine wpK.bindA (wpAny_mono (turn n s hI (fun f s₃ => match f with | .next | .cont => ∃ m, m < n ∧ I m s₃ | .brk => Q .next s₃ | .ret v => Q (.ret v) s₃) fun _ _ h => h) (fun c s₂ h₂ => ?_) fun _ _ x => x)
  obtain ⟨rfl, h₂⟩ := h₂
  refine wpK.bind (wpK.mono h₂ (fun f s₃ h₃ => ?_) fun _ _ x => x)
  cases f with
  | next => exact wpK.pure (.inl ⟨rfl, h₃⟩)
  | cont => exact wpK.pure (.inl ⟨rfl, h₃⟩)
  | brk => exact wpK.pure h₃
  | ret v => exact wpK.pure h₃

theorem forK {target iter : PySem.Expr} {body : List Stmt} {pos : Pos} {Q : Flow → Shared → Prop}
    (h : wpAny (model prog w) A (eval iter env) (fun x s₁ => wpAny (model prog w) A (pyIter x) (fun it s₂ =>
      ∃ (I : Nat → Shared → Prop) (n : Nat), I n s₂ ∧ ∀ n s, I n s → wpAny (model prog w) A (pyNext it) (fun r s₁ => match r with
        | none => Q .next s₁
        | some v => wpAny (model prog w) A (letOwnedTupleGo target it v) (fun _ s₁ => wpAny (model prog w) A (assign target env v) (fun _ s₂ => wpK (model prog w) A (execs body env) (fun f s₃ => match f with
            | .next | .cont => ∃ m, m < n ∧ I m s₃
            | .brk => Q .next s₃
            | .ret v => Q (.ret v) s₃) (fun _ _ => False) s₂) (fun _ _ => False) s₁) (fun _ _ => False) s₁) (fun _ _ => False) s) (fun _ _ => False) s₁) (fun _ _ => False) s)
    (hs : ∀ x, foldedSetIterable iter env x = pure x) :
    wpK (model prog w) A (exec (.For target iter body [] pos) env) Q E s := by
  rw [exec_For]
  refine wpK.bindA (wpAny_standAt (wpK.bindA (wpAny_mono h (fun x s₁ h₁ => ?_) fun _ _ x => x.elim)))
  rw [hs x]
  refine wpK.bindA (wpAny_pure (wpK.bindA (wpAny_standAt (wpK.bindA (wpAny_holding (wpAny_mono h₁ (fun it s₂ h₂ => ?_) fun _ _ x => x.elim))))))
  obtain ⟨I, n, h0, turn⟩ := h₂
  refine wpK.runOwn rfl (codeK.loop rfl rfl I (fun n s hI => ?_) n s₂ h0)
  show wpK _ A ((forTurn target it body [] env).onRaise _) _ _ s
  refine wpK.onRaise ?_
  unfold forTurn
  refine wpK.bindA (wpAny_standAt (wpK.bind (wpK.onRaise (wpK.of (wpAny_mono (turn n s hI) (fun r s₁ h₁ => ?_) fun _ _ x => x)))))
  cases r with
  | none =>
    refine wpK.pure (.inr ⟨rfl, rfl, codeK.tree ?_⟩)
    show wpK _ A (do return Fin.done (← (execs [] env).onRaise (fun x => do noteFrame x env; theTreesLotGoes x))) _ _ s₁
    exact wpK.bind (wpK.onRaise (wpK.of (wpAny_execs_nil (wpK.pure h₁))))
  | some v =>
    refine wpK.bindA (wpAny_mono h₁ (fun _ s₂ h₂ => wpK.bindA (wpAny_mono h₂ (fun _ s₃ h₃ => wpK.bind (wpK.mono h₃ (fun f s₄ h₄ => ?_) fun _ _ x => x)) fun _ _ x => x)) fun _ _ x => x)
    cases f with
    | next => exact wpK.pure (.inl ⟨rfl, h₄⟩)
    | cont => exact wpK.pure (.inl ⟨rfl, h₄⟩)
    | brk => exact wpK.pure h₄
    | ret v => exact wpK.pure h₄

theorem consK {st : Stmt} {rest : List Stmt} {Q : Flow → Shared → Prop} (h : wpK (model prog w) A (exec st env) (fun f s' => match f with | .next => wpK (model prog w) A (execs rest env) Q E s' | f => Q f s') E s) : wpK (model prog w) A (execs (st :: rest) env) Q E s := by
  rw [execs_cons]
  refine wpK.bind (wpK.mono h (fun f s' h' => ?_) fun _ _ x => x)
  cases f <;> first | exact h' | exact wpK.pure h'
theorem nilK {Q : Flow → Shared → Prop} (h : Q .next s) : wpK (model prog w) A (execs [] env) Q E s := wpK.of (wpAny_execs_nil h)
/-- a statement that the plain logic walks -/
theorem stepK {st : Stmt} {rest : List Stmt} {Q : Flow → Shared → Prop} (h : wpAny (model prog w) A (exec st env) (fun f s' => match f with | .next => wpK (model prog w) A (execs rest env) Q E s' | f => Q f s') E s) : wpK (model prog w) A (execs (st :: rest) env) Q E s := consK (wpK.of h)
theorem ifK {test : PySem.Expr} {body orelse : List Stmt} {pos : Pos} {Q : Flow → Shared → Prop}
    (h : wpAny (model prog w) A (isTrue test env (eval test env)) (fun c s₂ => if c = true then wpK (model prog w) A (execs body env) Q E s₂ else wpK (model prog w) A (execs orelse env) Q E s₂) E s) : wpK (model prog w) A (exec (.If test body orelse pos) env) Q E s := by
  rw [exec_If]
  refine wpK.bindA (wpAny_standAt (wpK.bindA (wpAny_mono h (fun c s₂ h₂ => ?_) fun _ _ x => x)))
  cases c
  · simp only [Bool.false_eq_true, if_false] at h₂ ⊢; exact h₂
  · simp only [if_true] at h₂ ⊢; exact h₂
theorem assignK {x : Str} {pos' pos : Pos} {value : PySem.Expr} {Q : Flow → Shared → Prop} (h : wpK (model prog w) A (eval value env) (fun v s₁ => wpAny (model prog w) A (storeName env x v) (fun _ => Q .next) E s₁) E s)
    (hs : swapsWith value (some (.Name x pos')) pos.line env = pure false := by rfl) : wpK (model prog w) A (exec (.Assign [.Name x pos'] value pos) env) Q E s := by
  rw [exec_Assign_Name env x pos' value pos hs]
  exact wpK.bindA (wpAny_standAt (wpK.bind (wpK.mono h (fun v s₁ h₁ => wpK.bindA (wpAny_standAt (wpK.bindA (wpAny_bindName (wpAny_mono h₁ (fun _ _ q => wpK.pure q) fun _ _ x => x))))) fun _ _ x => x)))
theorem returnK {e : PySem.Expr} {pos : Pos} {Q : Flow → Shared → Prop} (h : wpK (model prog w) A (eval e env) (fun v => Q (.ret v)) E s) : wpK (model prog w) A (exec (.Return (some e) pos) env) Q E s := by
  rw [exec_Return_some]
  exact wpK.bindA (wpAny_standAt (wpK.bind (wpK.mono h (fun v s₁ h₁ => wpK.pure h₁) fun _ _ x => x)))
theorem exprK {e : PySem.Expr} {pos : Pos} {Q : Flow → Shared → Prop} (h : wpK (model prog w) A (eval e env) (fun v s' => match v with | .ref _ => False | _ => Q .next s') E s)
    (hi : interactive env = false := by rfl) (hs : swapsWith e none pos.line env = pure false := by rfl) : wpK (model prog w) A (exec (.Expr e pos) env) Q E s := by
  rw [exec_Expr env e pos hi hs]
  refine wpK.bindA (wpAny_standAt (wpK.bind (wpK.mono h (fun v s' h' => ?_) fun _ _ x => x)))
  have hv : ∀ a, v ≠ .ref a := fun a hva => by subst hva; exact h'
  rw [dropValue_plain hv]
  refine wpK.pure ?_
  cases v <;> first | exact h' | exact (hv _ rfl).elim
end
section
theorem ba_owner : Manifest.owners.lookup (String.ofList ['y', 'a', 'r', 'r', 'a', 'e', 't', 'y', 'b'].reverse) = some Manifest.sig_bytearray := by kernel_rfl
theorem ba_slot_append : Slot "bytearray" "append" "bytearray.append" :=
  .of (owner := "bytearray") (n := "append") (by rw [typeLookup_type, builtinLookup_eq_fast]; kernel_rfl) (by decide +kernel) (by decide +kernel) (by decide +kernel)
    (by first | exact .inl (by decide +kernel) | exact .inr (by decide +kernel)) (by rw [isSubtype_type]; kernel_rfl)
theorem ba_slot_extend : Slot "bytearray" "extend" "bytearray.extend" :=
  .of (owner := "bytearray") (n := "extend") (by rw [typeLookup_type, builtinLookup_eq_fast]; kernel_rfl) (by decide +kernel) (by decide +kernel) (by decide +kernel)
    (by first | exact .inl (by decide +kernel) | exact .inr (by decide +kernel)) (by rw [isSubtype_type]; kernel_rfl)
theorem ba_slot_init : Slot "bytearray" "__init__" "bytearray.__init__" :=
  .of (owner := "bytearray") (n := "__init__") (by rw [typeLookup_type, builtinLookup_eq_fast]; kernel_rfl) (by decide +kernel) (by decide +kernel) (by decide +kernel)
    (by first | exact .inl (by decide +kernel) | exact .inr (by decide +kernel)) (by rw [isSubtype_type]; kernel_rfl)
theorem ba_args_append (a c : Value) : argsOk "bytearray.append" ⟨[a, c], []⟩ := by
  unfold argsOk; rw [signature?_of (id := "bytearray.append") (n := ['d', 'n', 'e', 'p', 'p', 'a']) (o := ['y', 'a', 'r', 'r', 'a', 'e', 't', 'y', 'b']) (by kernel_rfl) ba_owner]; kernel_rfl
theorem ba_args_extend (a c : Value) : argsOk "bytearray.extend" ⟨[a, c], []⟩ := by
  unfold argsOk; rw [signature?_of (id := "bytearray.extend") (n := ['d', 'n', 'e', 't', 'x', 'e']) (o := ['y', 'a', 'r', 'r', 'a', 'e', 't', 'y', 'b']) (by kernel_rfl) ba_owner]; kernel_rfl
theorem ba_args_init (a : Value) : argsOk "bytearray.__init__" ⟨[a], []⟩ := by
  unfold argsOk; rw [signature?_of (id := "bytearray.__init__") (n := ['_', '_', 't', 'i', 'n', 'i', '_', '_']) (o := ['y', 'a', 'r', 'r', 'a', 'e', 't', 'y', 'b']) (by kernel_rfl) ba_owner]; kernel_rfl
theorem ba_entry_append : entryFor table "bytearray.append" = some Builtin.«bytearray.append» := by first | exact entryFor_of_fast (by kernel_rfl) | exact entryFor_of_tree (by kernel_rfl)
theorem ba_entry_extend : entryFor table "bytearray.extend" = some Builtin.«bytearray.extend» := by first | exact entryFor_of_fast (by kernel_rfl) | exact entryFor_of_tree (by kernel_rfl)
theorem ba_entry_init : entryFor table "bytearray.__init__" = some Builtin.«bytearray.__init__» := by first | exact entryFor_of_fast (by kernel_rfl) | exact entryFor_of_tree (by kernel_rfl)
theorem ba_getattribute : typeLookup (.type "bytearray") "__getattribute__" = pure (some (.builtin "bytearray.__getattribute__")) := by rw [typeLookup_type, builtinLookup_eq_fast]; kernel_rfl
theorem ba_canon : (Manifest.canonical "bytearray.__getattribute__" != "object.__getattribute__") = false := by decide +kernel
theorem ba_getattr : typeLookup (.type "bytearray") "__getattr__" = pure none := by rw [typeLookup_type, builtinLookup_eq_fast]; kernel_rfl
theorem ba_type_append : typeOf (.builtin "bytearray.append") = pure (.type "method_descriptor") := by show builtinType _ = _; rw [builtinType_eq_fast]; kernel_rfl
theorem ba_type_extend : typeOf (.builtin "bytearray.extend") = pure (.type "method_descriptor") := by show builtinType _ = _; rw [builtinType_eq_fast]; kernel_rfl
theorem ba_buffer : typeLookup (.type "bytes") "__buffer__" = pure (some (.builtin "bytes.__buffer__")) := by rw [typeLookup_type, builtinLookup_eq_fast]; kernel_rfl

variable {prog : Program} {w : World} {A : Around} {E : Value → Shared → Prop} {s : Shared}
theorem ba_getMethod {name : Str} {id : String} {r : Addr} {o : Obj} {pl : Sem Bool} {Q : Value × List Value → Shared → Prop} (ho : s.heap.get? r = some o) (hc : o.cls = .type "bytearray") (hd : o.dict = none)
    (hs : typeLookup (.type "bytearray") name = pure (some (.builtin id))) (ht : typeOf (.builtin id) = pure (.type "method_descriptor"))
    (h : Q (.builtin id, [.ref r]) s) : wpAny (model prog w) A (getMethod (.ref r) name pl) Q E s := by
  have hT : s.TypeIs (.ref r) "bytearray" := ⟨o, ho, hc⟩
  unfold getMethod
  refine wpAny_bind (wpAny_specialOf hT ba_getattribute ?_)
  show wpAny _ A (if (Manifest.canonical "bytearray.__getattribute__" != "object.__getattribute__") = true then _ else _) Q E s
  rw [ba_canon, if_neg Bool.false_ne_true]
  refine wpAny_bind (wpAny_specialOf hT ba_getattr ?_)
  refine wpAny_bind (wpAny_specialOf hT hs ?_)
  refine wpAny_bind (wpAny_of_eq ht ?_)
  refine wpAny_bind (wpAny_load ho ?_)
  rw [hd]
  exact wpAny_bind (wpAny_rule (wpAny_pure h))

/-- no code on the stack holds it -/
theorem ba_exported {M : Model} {r : Addr} {Q : Bool → Shared → Prop} (h : Q false s) : wpK M A (Builtin.Bytes.exported (.ref r)) Q E s := by
  unfold Builtin.Bytes.exported
  refine wpK.bind (wpK.stack fun l hl => wpK.pure ?_)
  have key : ∀ f : Code × Pos → Bool, (∀ x ∈ l, f x = false) → Q (l.any f) s := fun f hf => by
    rw [show l.any f = false from List.any_eq_false.mpr fun x hx => by rw [hf x hx]; exact Bool.false_ne_true]; exact h
  refine key _ ?_
  rintro ⟨c, p⟩ hx
  have hb : ¬ badCode c = true := List.any_eq_false.mp hl _ hx
  split
  all_goals (rename_i e; first | (cases e; exact absurd rfl hb) | skip)
  · cases e
    rw [Bool.not_eq_true] at hb
    have := (Bool.or_eq_false_iff.mp hb).1
    rw [this, Bool.and_false]
  · rfl
end
section
variable {prog : Program} {w : World} {A : Around} {E : Value → Shared → Prop} {s : Shared} {env : Env} {s₀ : Shared} {b₀ b : Heap} {L : Addr} {own : List (Addr × Obj)} {m : Str → Option Value}
def baObj (x : Array UInt8) : Obj := { cls := .type "bytearray", data := .bytearray x }

theorem wpK.if_false {α : Type} {M : Model} {a b : Sem α} {Q : α → Shared → Prop} (h : wpK M A b Q E s) : wpK M A (if false = true then a else b) Q E s := h
theorem ba_checkResize {M : Model} {r : Addr} {x : Array UInt8} {Q : Unit → Shared → Prop} (ho : s.heap.get? r = some (baObj x)) (h : Q () s) : wpK M A (Builtin.Bytes.checkResize (.ref r)) Q E s := by
  unfold Builtin.Bytes.checkResize
  refine wpK.bind (wpK.bind (ba_exported ?_))
  show wpK M A (Builtin.Bytes.exportsOf (.ref r) >>= fun n => Pure.pure (decide (n > 0))) _ _ _
  refine wpK.bindA ?_
  unfold Builtin.Bytes.exportsOf
  refine wpAny_bind (wpAny_load ho ?_)
  exact wpAny_pure (wpK.pure (wpK.pure h))

theorem ba_write {M : Model} {r : Addr} {x : Array UInt8} {f : Array UInt8 → Array UInt8} {Q : Unit → Shared → Prop} (ho : s.heap.get? r = some (baObj x)) (hz : (f x).size ≤ sizeLine)
    (h : ∀ h', Heap.SameBut r s.heap h' → h'.get? r = some (baObj (f x)) → Q () { s with heap := h' }) : wpAny M A (Builtin.Bytes.write (.ref r) f) Q E s := by
  show wpAny _ _ (updateBytearray r f) _ _ _
  unfold updateBytearray
  refine wpAny_bind (wpAny_load ho ?_)
  show wpAny _ _ (update r (Obj.mapBytearray f) >>= fun _ => lookBehind r) _ _ _
  have h2 : (s.heap.update r (Obj.mapBytearray f)).get? r = some (baObj (f x)) := Heap.get?_update_self (Obj.mapBytearray f) ho rfl
  refine wpAny_bind (wpAny_update ho (wpAny_lookBehind h2 ?_ (h _ (Heap.SameBut.update ..) h2)))
  show (if (f x).size > sizeLine then some "bytearray:memory" else none) = none
  rw [if_neg (Nat.not_lt.mpr hz)]

theorem codeK.entry {T : String} {name : Str} {id : String} {bi : Builtin} {self : Value} {rest : List Value} {Q : Value → Shared → Prop} (hb : badCode (.builtin id ⟨self :: rest, []⟩) = false) (hs : Slot T name id) (hT : s.TypeIs self T) (he : entryFor table id = some bi)
    (hc : wpK (model prog w) A.in1 (bi ⟨self :: rest, []⟩) (fun fin s' => ∃ v, fin = .done (.ret v) ∧ Q v s') E s) (ha : argsOk id ⟨self :: rest, []⟩) : wpK (model prog w) A (PySem.call (.builtin id) (self :: rest)) Q E s := by
  refine wpK.call (codeK.tree ?_)
  show wpK _ A.in1 (do checkBuiltinCall id ⟨self :: rest, []⟩; again (.builtin id ⟨self :: rest, []⟩)) _ _ s
  refine wpK.bindA (hs.check _ _ _ _ _ _ _ _ hT ha (wpK.pure ⟨plainId_quiet hs.plain _, hb, codeK.tree ?_⟩))
  rw [Around.under_plainId hs.plain]
  show wpK _ _ (match entryFor table id with | some b => b _ | none => unsupported ((withoutEnding? id "#data").getD id)) _ _ s
  rw [he]
  refine wpK.mono hc (fun fin s' h' => ?_) fun _ _ x => x
  obtain ⟨v, rfl, hv⟩ := h'; exact hv

theorem ba_append {r : Addr} {x : Array UInt8} {i : Int} {t : Tok} {Q : Value → Shared → Prop} (F : Fm s₀ b₀ b L ((r, baObj x) :: own) m s) (h0 : 0 ≤ i) (h1 : i < 256) (hz : x.size < sizeLine)
    (h : ∀ s', Fm s₀ b₀ b L ((r, baObj (x.push i.toNat.toUInt8)) :: own) m s' → Q .none s') : wpK (model prog w) A (PySem.call (.builtin "bytearray.append") [.ref r, .int i t]) Q E s := by
  refine codeK.entry rfl ba_slot_append ⟨_, F.hd, rfl⟩ ba_entry_append ?_ (ba_args_append _ _)
  unfold Builtin.«bytearray.append»
  refine wpK.bindA (m := selfAndOne _ _) (wpAny_pure ?_)
  refine wpK.bindA (m := Builtin.Bytes.byteValue _) ?_
  · unfold Builtin.Bytes.byteValue
    refine wpAny_bind (wpAny_of_eq (rfl : asIndex (.int i t) = pure i) ?_)
    refine bm_if_false (by simp only [Bool.or_eq_false_iff, decide_eq_false_iff_not]; omega) ?_
    refine wpAny_pure (wpK.bind (ba_checkResize F.hd (wpK.bindA (ba_write F.hd (by rw [Array.size_push]; exact hz) fun h' hs he => ?_))))
    exact wpK.pure ⟨_, rfl, h _ (F.upd hs he)⟩
end
section
theorem ba_no_bytes : typeLookup (.type "bytearray") "__bytes__" = pure none := by rw [typeLookup_type, builtinLookup_eq_fast]; kernel_rfl
theorem ba_no_index : typeLookup (.type "bytearray") "__index__" = pure none := by rw [typeLookup_type, builtinLookup_eq_fast]; kernel_rfl
theorem ba_has_buffer : typeLookup (.type "bytearray") "__buffer__" = pure (some (.builtin "bytearray.__buffer__")) := by rw [typeLookup_type, builtinLookup_eq_fast]; kernel_rfl
theorem ba_has_release : typeLookup (.type "bytearray") "__release_buffer__" = pure (some (.builtin "bytearray.__release_buffer__")) := by rw [typeLookup_type, builtinLookup_eq_fast]; kernel_rfl
theorem by_no_release : typeLookup (.type "bytes") "__release_buffer__" = pure none := by rw [typeLookup_type, builtinLookup_eq_fast]; kernel_rfl
theorem ba_sub : isSubtype (.type "bytearray") (.type "bytearray") = pure true := by rw [isSubtype_type]; kernel_rfl
theorem ba_mro : mroOf (.type "bytearray") = pure [.type "bytearray", .type "object"] := by rw [mroOf_type]; kernel_rfl
theorem ba_lookup_new : typeLookup (.type "bytearray") "__new__" = pure (some (.builtin "bytearray.__new__")) := by rw [typeLookup_type, builtinLookup_eq_fast]; kernel_rfl
theorem ba_called : TypeCalled "bytearray" "bytearray.__new__" "bytearray.__init__" :=
  ⟨by decide +kernel, by decide +kernel, ⟨_, _, ba_mro⟩, madeBy_type ba_mro ba_lookup_new (by decide +kernel), by decide +kernel, by rw [isSubtype_type]; kernel_rfl, ba_slot_init⟩
theorem ba_typeCall : checkTypeCall "bytearray" ⟨[], []⟩ = pure () := by kernel_rfl
theorem ba_newCall : checkBuiltinCall "bytearray.__new__" ⟨[.type "bytearray"], []⟩ = pure () := by kernel_rfl
theorem ba_entry_new : entryFor table "bytearray.__new__" = some Builtin.«list.__new__» :=
  entryFor_alias (id' := "list.__new__") (by kernel_rfl) (by first | rfl | decide +kernel) (by decide +kernel) (by kernel_rfl)
theorem ba_plain_new : plainId "bytearray.__new__" = true := by decide +kernel
theorem ba_bind : Builtin.Bytes.bindOptional "bytearray.__init__" "bytearray" ["source", "encoding", "errors"] [] [] = pure [none, none, none] := by kernel_rfl

variable {prog : Program} {w : World} {A : Around} {E : Value → Shared → Prop} {s : Shared} {env : Env} {s₀ : Shared} {b₀ b : Heap} {L : Addr} {own : List (Addr × Obj)} {m : Str → Option Value}

theorem own_some {M : Model} {v : Value} {T name id : String} {Q : Bool → Shared → Prop} (hT : s.TypeIs v T) (hl : typeLookup (.type T) (name : Str) = pure (some (.builtin id))) (he : id.endsWith ("." ++ name) = true)
    (hd : id.dropRight (name.length + 1) = T) (hs : isSubtype (.type T) (.type T) = pure true) (h : Q true s) : wpAny M A (Builtin.Bytes.slotIsOwn v name) Q E s := by
  unfold Builtin.Bytes.slotIsOwn
  refine wpAny_bind (wpAny_specialOf hT hl ?_)
  simp only [he, hd, Bool.not_true, Bool.false_eq_true, if_false]
  first | exact wpAny_isInstance hT hs h | exact wpAny_bind (wpAny_pure (wpAny_isInstance hT hs h))
theorem own_none {M : Model} {v : Value} {T name : String} {Q : Bool → Shared → Prop} (hT : s.TypeIs v T) (hl : typeLookup (.type T) (name : Str) = pure none) (h : Q true s) : wpAny M A (Builtin.Bytes.slotIsOwn v name) Q E s := by
  unfold Builtin.Bytes.slotIsOwn
  refine wpAny_bind (wpAny_specialOf hT hl ?_)
  exact wpAny_pure h
theorem buffer_bytes {M : Model} {id : String} {x : Array UInt8} {t : Tok} {full : Bool} {Q : Option (Array UInt8) → Shared → Prop} (h : Q (some x) s) : wpAny M A (Builtin.Bytes.buffer? id (.bytes x t) full) Q E s := by
  have hT : s.TypeIs (.bytes x t) "bytes" := PySem.W.typeIs_bytes _ _ _
  unfold Builtin.Bytes.buffer?
  refine wpAny_bind (wpAny_specialOf hT ba_buffer ?_)
  refine wpAny_bind (own_some hT ba_buffer (by decide +kernel) (by decide +kernel) PySem.F.bm_sub ?_)
  refine wpAny_bind (wpAny_specialOf hT ba_buffer ?_)
  refine wpAny_bind (m := Builtin.Bytes.ownRelease _) (wpAny_bind (own_none hT by_no_release (wpAny_pure ?_)))
  exact wpAny_bind (wpAny_bind (wpAny_pure (wpAny_pure (wpAny_pure h))))
theorem buffer_ba {M : Model} {id : String} {r : Addr} {x : Array UInt8} {full : Bool} {Q : Option (Array UInt8) → Shared → Prop} (ho : s.heap.get? r = some (baObj x)) (h : Q (some x) s) : wpAny M A (Builtin.Bytes.buffer? id (.ref r) full) Q E s := by
  have hT : s.TypeIs (.ref r) "bytearray" := ⟨_, ho, rfl⟩
  unfold Builtin.Bytes.buffer?
  refine wpAny_bind (wpAny_specialOf hT ba_has_buffer ?_)
  refine wpAny_bind (own_some hT ba_has_buffer (by decide +kernel) (by decide +kernel) ba_sub ?_)
  refine wpAny_bind (wpAny_specialOf hT ba_has_buffer ?_)
  refine wpAny_bind (m := Builtin.Bytes.ownRelease _) (wpAny_bind (own_some hT ba_has_release (by decide +kernel) (by decide +kernel) ba_sub (wpAny_pure ?_)))
  refine wpAny_bind (m := Builtin.Bytes.payload _) ?_
  unfold Builtin.Bytes.payload Builtin.Bytes.payload?
  exact wpAny_bind (wpAny_bind (wpAny_load ho (wpAny_pure (wpAny_pure (wpAny_pure h)))))
theorem payload_ba {M : Model} {r : Addr} {x : Array UInt8} {Q : Array UInt8 → Shared → Prop} (ho : s.heap.get? r = some (baObj x)) (h : Q x s) : wpAny M A (Builtin.Bytes.payload (.ref r)) Q E s := by
  unfold Builtin.Bytes.payload Builtin.Bytes.payload?
  exact wpAny_bind (wpAny_bind (wpAny_load ho (wpAny_pure (wpAny_pure h))))

theorem ba_extend {r : Addr} {x y : Array UInt8} {t : Tok} {Q : Value → Shared → Prop} (F : Fm s₀ b₀ b L ((r, baObj x) :: own) m s) (hz : x.size + y.size ≤ sizeLine)
    (h : ∀ s', Fm s₀ b₀ b L ((r, baObj (x ++ y)) :: own) m s' → Q .none s') : wpK (model prog w) A (PySem.call (.builtin "bytearray.extend") [.ref r, .bytes y t]) Q E s := by
  have hT : s.TypeIs (.bytes y t) "bytes" := PySem.W.typeIs_bytes _ _ _
  refine codeK.entry rfl ba_slot_extend ⟨_, F.hd, rfl⟩ ba_entry_extend ?_ (ba_args_extend _ _)
  unfold Builtin.«bytearray.extend»
  refine wpK.bindA (m := selfAndOne _ _) (wpAny_pure ?_)
  refine wpK.bindA (wpAny_specialOf hT ba_buffer ?_)
  show wpK _ _ (if true = true then _ else _) _ _ _
  rw [if_pos rfl]
  refine wpK.bindA (wpAny_rule ?_)
  refine wpK.bindA (payload_ba F.hd ?_)
  refine wpK.bindA (m := Builtin.Bytes.takeBufferQuiet? _ _ _) ?_
  · unfold Builtin.Bytes.takeBufferQuiet? Builtin.Bytes.takeBuffer?
    refine wpAny_bind (wpAny_attempt (wpAny_bind (wpAny_specialOf hT ba_buffer (wpAny_bind (own_some hT ba_buffer (by decide +kernel) (by decide +kernel) PySem.F.bm_sub (wpAny_bind (wpAny_specialOf hT ba_buffer ?_)))))))
    refine wpAny_bind (buffer_bytes (wpAny_pure (wpAny_pure ?_)))
    change wpK _ _ (if (!y.isEmpty) = true then (Builtin.Bytes.checkResize (.ref r) >>= fun _ => Builtin.Bytes.write (.ref r) (· ++ y) >>= fun _ => ret .none) else (Builtin.Bytes.write (.ref r) (· ++ y) >>= fun _ => ret .none)) _ _ _
    have wr : wpK (model prog w) A.in1 (Builtin.Bytes.write (.ref r) (· ++ y) >>= fun _ => ret .none) (fun fin s' => ∃ v, fin = .done (.ret v) ∧ Q v s') E s :=
      wpK.bindA (ba_write F.hd (by show (x ++ y).size ≤ sizeLine; rw [Array.size_append]; exact hz) fun h' hs he => wpK.pure ⟨_, rfl, h _ (F.upd hs he)⟩)
    cases e : y.isEmpty
    · exact wpK.bind (ba_checkResize F.hd wr)
    · exact wr
theorem call_bytes_ba {r : Addr} {x : Array UInt8} {Q : Value → Shared → Prop} (ho : s.heap.get? r = some (baObj x)) (hz : x.size ≤ sizeLine) (h : ∀ t k, Q (.bytes x t) { s with toks := k }) : wpAny (model prog w) A (call (.type "bytes") [.ref r]) Q E s := by
  have hT : s.TypeIs (.ref r) "bytearray" := ⟨_, ho, rfl⟩
  refine callType_codes (Q₁ := fun obj s₁ => s₁.TypeIs obj "bytes" ∧ Q obj s₁) F.bm_called (F.bm_typeCall _) F.entry_object_init ?_ fun obj s₁ h₁ => ?_
  · refine codeAny_of_tree ?_
    show wpAny _ A.in1.in1 (do checkBuiltinCall "bytes.__new__" ⟨[.type "bytes", .ref r], []⟩; again (.builtin "bytes.__new__" ⟨[.type "bytes", .ref r], []⟩)) _ _ s
    refine wpAny_bind (wpAny_of_eq (F.bm_newCall _) (wpAny_pure ⟨plainId_quiet F.bm_plain _, codeAny_builtin F.bm_entry ?_⟩))
    rw [Around.under_plainId F.bm_plain _]
    unfold Builtin.«bytes.__new__»
    refine wpAny_bind (wpAny_of_eq (a := true) rfl ?_)
    refine bm_if_false rfl ?_
    refine wpAny_bind (wpAny_of_eq F.bm_sub ?_)
    refine bm_if_false rfl ?_
    refine wpAny_bind (wpAny_of_eq (F.bm_bind _) ?_)
    refine wpAny_bind (wpAny_of_eq (a := ()) rfl ?_)
    refine wpAny_bind (wpAny_of_eq (a := ()) rfl ?_)
    refine bm_if_false rfl ?_
    refine wpAny_bind (wpAny_specialOf hT ba_no_bytes ?_)
    refine wpAny_bind (wpAny_bind ?_)
    show wpAny _ _ (load r >>= _) _ _ _
    refine wpAny_bind (wpAny_load ho ?_)
    refine wpAny_pure (wpAny_pure ?_)
    refine bm_if_false rfl ?_
    refine wpAny_bind (wpAny_specialOf hT ba_no_index ?_)
    refine bm_if_true rfl ?_
    first
      | show wpAny _ _ (Builtin.Bytes.buffer? "bytes.__new__" (.ref r) true >>= _) _ _ _
      | (refine wpAny_bind ?_; show wpAny _ _ (Builtin.Bytes.buffer? "bytes.__new__" (.ref r) true >>= _) _ _ _)
    refine wpAny_bind (buffer_ba ho ?_)
    refine wpAny_bind (wpAny_rule (wpAny_bind (wpAny_mkBytes ?_ hz)))
    show wpAny _ _ (if (Value.type "bytes" == Value.type "bytes") = true then _ else _) _ _ _
    refine bm_if_true (by decide) ?_
    first
      | exact wpAny_pure ⟨PySem.W.typeIs_bytes _ _ _, h _ _⟩
      | exact wpAny_bind (wpAny_pure (wpAny_pure ⟨PySem.W.typeIs_bytes _ _ _, h _ _⟩))
      | exact wpAny_pure (wpAny_pure ⟨PySem.W.typeIs_bytes _ _ _, h _ _⟩)
  · exact ⟨h₁.1, F.args_object_init_2 obj _, object_init_meets F.bm_called.init.lookup F.bm_called.made (by decide) prog w A.in1 _ s₁ ⟨h₁.1, rfl, h₁.2⟩⟩
end
section
variable {prog : Program} {w : World} {A : Around} {E : Value → Shared → Prop} {s : Shared} {env : Env} {s₀ : Shared} {b₀ b : Heap} {L : Addr} {own : List (Addr × Obj)} {m : Str → Option Value}
theorem ba_owner_new : ("bytearray.__new__".splitOn ".__new__").headD "" = "bytearray" := by simp +decide [String.splitOn, String.splitOnAux]
theorem ba_code_new {Q₁ : Value → Shared → Prop} (h : Q₁ (.ref s.heap.objs.size) { s with heap := s.heap.push (baObj #[]) }) :
    codeAny (model prog w) A (.call (.builtin "bytearray.__new__") ⟨[.type "bytearray"], []⟩) (wants Q₁ E) s := by
  refine codeAny_of_tree ?_
  show wpAny _ A.in1 (do checkBuiltinCall "bytearray.__new__" ⟨[.type "bytearray"], []⟩; again (.builtin "bytearray.__new__" ⟨[.type "bytearray"], []⟩)) _ _ s
  refine wpAny_bind (wpAny_of_eq ba_newCall (wpAny_pure ⟨plainId_quiet ba_plain_new _, codeAny_builtin_stack ba_entry_new rfl fun p st => ?_⟩))
  rw [Around.under_plainId ba_plain_new _]
  have hsub := ba_sub
  have hown := ba_owner_new
  obtain ⟨hp, g, d, tk, os⟩ := s
  simp only [hown]
  wp_walk
  exact h
theorem ba_init_body {r : Addr} {Q : Fin → Shared → Prop} (ho : s.heap.get? r = some (baObj #[])) (h : ∀ h', Heap.SameBut r s.heap h' → h'.get? r = some (baObj #[]) → Q (.done (.ret .none)) { s with heap := h' }) :
    wpK (model prog w) A (Builtin.«bytearray.__init__» ⟨[.ref r], []⟩) Q E s := by
  have hT : s.TypeIs (.ref r) "bytearray" := ⟨_, ho, rfl⟩
  unfold Builtin.«bytearray.__init__»
  refine wpK.bindA (m := Builtin.Bytes.ownRelease _) (wpAny_bind (own_some hT ba_has_release (by decide +kernel) (by decide +kernel) ba_sub (wpAny_pure ?_)))
  refine wpK.if_false ?_
  refine wpK.bindA (wpAny_of_eq ba_bind ?_)
  refine wpK.bindA (m := Builtin.Bytes.checkCodecArg _ _ _ _) (wpAny_of_eq (a := ()) rfl ?_)
  refine wpK.bindA (m := Builtin.Bytes.checkCodecArg _ _ _ _) (wpAny_of_eq (a := ()) rfl ?_)
  refine wpK.bind (wpK.bind (ba_exported ?_))
  change wpK _ _ (Builtin.Bytes.exportsOf (.ref r) >>= fun n => Pure.pure (decide (n > 0))) _ _ _
  refine wpK.bindA ?_
  unfold Builtin.Bytes.exportsOf
  refine wpAny_bind (wpAny_load ho (wpAny_pure (wpK.pure ?_)))
  refine wpK.bindA (ba_write ho (Nat.zero_le _) fun h' hs he => ?_)
  exact wpK.pure (h _ hs he)
theorem codeK.builtin {id : String} {args : Args} {bi : Builtin} {R : Result → Shared → Prop} (he : entryFor table id = some bi)
    (h : wpK (model prog w) (A.under (.builtin id args)) (bi args) (fun fin s' => match fin with | .done f => R (.ok f) s' | .again c' => c'.quiet = true ∧ badCode c' = false ∧ codeK (model prog w) A c' R s') (fun e s' => R (.error e) s') s) :
    codeK (model prog w) A (.builtin id args) R s := by
  refine codeK.tree ?_
  show wpK _ _ (match entryFor table id with | some b => b args | none => unsupported ((withoutEnding? id "#data").getD id)) _ _ s
  rw [he]; exact h
theorem ba_new {Q : Value → Shared → Prop} (F : Fm s₀ b₀ b L own m s) (h : ∀ r s', Fm s₀ b₀ b L ((r, baObj #[]) :: own) m s' → Q (.ref r) s') : wpK (model prog w) A (PySem.call (.type "bytearray") []) Q E s := by
  refine wpK.call (codeK.tree ?_)
  show wpK _ _ (callAny (.type "bytearray") _) _ _ _
  refine wpK.pure ⟨Code.quiet_builtin _ (by decide +kernel), rfl, codeK.builtin PySem.F.entry_type_call ?_⟩
  rw [Around.under_plain (weight_type_call_type "bytearray" [] []) rfl]
  unfold Builtin.«type.__call__»
  simp only [ba_called.notType, ba_called.canCreate, ba_called.made, ba_typeCall, ba_mro, pure_bind, Bool.false_eq_true, if_false]
  refine wpK.if_false ?_
  refine wpK.bindA (wpAny_holding (wpAny_call (codeAny_mono (ba_code_new (E := E) (Q₁ := fun v s' => v = .ref s.heap.objs.size ∧ s' = { s with heap := s.heap.push (baObj #[]) }) ⟨rfl, rfl⟩) fun r s₁ hr => ?_)))
  cases r with
  | error e => exact hr
  | ok fl =>
    cases fl with
    | ret v =>
      obtain ⟨rfl, rfl⟩ := hr
      have F' := F.pushOwn (baObj #[]) rfl
      have hT : Shared.TypeIs { s with heap := s.heap.push (baObj #[]) } (.ref s.heap.objs.size) "bytearray" := ⟨_, F'.hd, rfl⟩
      show wpK _ _ _ _ _ _
      refine wpK.bindA (wpAny_isInstance hT ba_sub ?_)
      refine wpK.if_false ?_
      refine wpK.bind (wpK.holding ?_)
      unfold callSpecial?
      refine wpK.bindA (wpAny_specialOf hT ba_slot_init.lookup ?_)
      refine wpK.holding ?_
      rw [ba_slot_init.bind]
      refine wpK.bindA (wpAny_pure (wpK.bind (codeK.entry rfl ba_slot_init hT ba_entry_init ?_ (ba_args_init _))))
      refine ba_init_body F'.hd fun h' hs he => ⟨_, rfl, wpK.pure ?_⟩
      exact wpK.pure (h _ _ (F'.upd hs he))
    | _ => exact hr.elim
end
section
variable {prog : Program} {w : World} {A : Around} {E : Value → Shared → Prop} {s : Shared} {env : Env} {s₀ : Shared} {b₀ b : Heap} {L : Addr} {own : List (Addr × Obj)} {m : Str → Option Value} {p : Program} {n : Nat} {mg mb : Str → Option Value}
theorem kKeep {α : Type} {M : Model} {t : Sem α} {vs : List Value} {Q : α → Shared → Prop} (h : wpK M A t Q E s) : wpK M A (t.keep vs) Q E s := fun Γ p hΓ hk => by rw [Sem.wp_keep]; exact h Γ p hΓ hk
theorem kTail {M : Model} {t : Sem Value} {Q : Value → Shared → Prop} (h : wpK M A t Q E s) : wpK M A (t >>= fun r => holding [r] point >>= fun _ => Pure.pure r) Q E s :=
  wpK.bind (wpK.mono h (fun r s₂ hr => wpK.bindA (wpAny_holding (wpAny_point (wpK.pure hr)))) fun _ _ x => x)

theorem callK {d : DefP} {np pos : Pos} {e : PySem.Expr} {rest : List PySem.Expr} {f : Str} {Q : Value → Shared → Prop} (F : Fm s₀ b₀ b L own m s) (G : Gl p n mg mb b) (fn : FnAt mg b d) (hf : f = d.name) (hg : env.globals = mainGlobals) (hk : env.scope.kind = .function)
    (hl : env.kindOf f = some .globalImplicit) (hd : (f == ("__debug__" : Str)) = false)
    (he : eval (.Call (.Name f np) (e :: rest) [] pos) env = (do callWith pos (← eval (.Name f np) env) [] (backTo pos (starEach (e :: rest) env)) (backToKw pos (keywordEach [] env))))
    (hs : starEach (e :: rest) env = (false, eval e env) :: starEach rest env) (hn : (backTo pos (starEach rest env)).any (·.1) = false)
    (h : ∀ a, IsFn b a d → wpAny (model prog w) A (spliced (backTo pos (starEach (e :: rest) env))) (fun vs s₁ => b.StaysIn s₁.heap ∧ wpK (model prog w) A (PySem.call (.ref a) vs) Q E s₁) E s) :
    wpK (model prog w) A (eval (.Call (.Name f np) (e :: rest) [] pos) env) Q E s := by
  subst hf
  obtain ⟨a, o, pm, cd, doc, h1, h2, h3, h4⟩ := fn
  rw [he]
  refine wpK.bindA (nm_glob F G hg hk hl h1 hd ?_)
  have h := h a ⟨o, pm, cd, doc, h2, h3, h4⟩
  show wpK _ _ (callWith pos (.ref a) [] (backTo pos (starEach (e :: rest) env)) []) _ _ _
  rw [hs] at h ⊢
  unfold callWith
  refine wpK.bindA (wpAny_holding (evalArgs_plain (wpAny_mono h (fun vs s₁ h₁ => wpK.bindA (wpAny_standAt ?_)) fun _ _ x => x)))
  have hst : (backTo pos ((false, eval e env) :: starEach rest env)).any (·.1) = false := by
    show (false || (backTo pos (starEach rest env)).any (·.1)) = false
    rw [hn]; rfl
  simp only [hst, List.any_nil, Bool.or_false]
  refine wpK.bindA (m := keeperOf (.ref a)) ?_
  unfold keeperOf
  refine wpAny_bind (wpAny_load (h₁.1 _ _ h2) ?_)
  rw [h3]
  refine wpAny_pure ?_
  dsimp only
  split
  · exact kTail h₁.2
  · exact kTail (by unfold callMarked; exact kKeep h₁.2)

theorem callK_type0 {T : String} {np pos : Pos} {f : Str} {Q : Value → Shared → Prop} (he : eval (.Call (.Name f np) [] [] pos) env = (do callWith pos (← eval (.Name f np) env) [] (backTo pos (starEach [] env)) (backToKw pos (keywordEach [] env))))
    (h : wpAny (model prog w) A (eval (.Name f np) env) (fun v s₁ => v = .type T ∧ wpK (model prog w) A (PySem.call (.type T) []) Q E s₁) E s) : wpK (model prog w) A (eval (.Call (.Name f np) [] [] pos) env) Q E s := by
  rw [he]
  refine wpK.bindA (wpAny_mono h (fun v s₁ h₁ => ?_) fun _ _ x => x)
  obtain ⟨rfl, h₁⟩ := h₁
  show wpK _ _ (callWith pos (.type T) [] [] []) _ _ _
  unfold callWith
  refine wpK.bindA (wpAny_holding (PyProof.Rows.evalArgs_none (wpK.bindA (wpAny_standAt ?_))))
  exact wpK.bindA (wpAny_pure (kTail h₁))

theorem methodK {o : PySem.Expr} {name : Str} {apos pos : Pos} {e : PySem.Expr} {pl : Sem Bool} {Q : Value → Shared → Prop}
    (he : eval (.Call (.Attribute o name apos) [e] [] pos) env = (do
      let ov ← eval o env
      standAt apos.atName
      let (f, first) ← holding [ov] (getMethod ov name pl)
      callWith pos f first (backTo pos (starEach [e] env)) []))
    (hs : starEach [e] env = (false, eval e env) :: starEach [] env)
    (h : wpAny (model prog w) A (eval o env) (fun ov s₁ => wpAny (model prog w) A (getMethod ov name pl) (fun fx s₂ => ∃ id, fx.1 = .builtin id ∧
      wpAny (model prog w) A (eval e env) (fun v s₃ => wpK (model prog w) A (PySem.call (.builtin id) (fx.2 ++ [v])) Q E s₃) E s₂) E s₁) E s) :
    wpK (model prog w) A (eval (.Call (.Attribute o name apos) [e] [] pos) env) Q E s := by
  rw [he]
  refine wpK.bindA (wpAny_mono h (fun ov s₁ h₁ => wpK.bindA (wpAny_standAt (wpK.bindA (wpAny_holding (wpAny_mono h₁ (fun fx s₂ h₂ => ?_) fun _ _ x => x))))) fun _ _ x => x)
  obtain ⟨f, first⟩ := fx
  obtain ⟨id, rfl, h₂⟩ := h₂
  show wpK _ _ (callWith pos (.builtin id) first (backTo pos (starEach [e] env)) []) _ _ _
  have hm : wpAny (model prog w) A (spliced (backTo pos (starEach [e] env))) (fun vs s₃ => wpK (model prog w) A (PySem.call (.builtin id) (first ++ vs)) Q E s₃) E s₂ := args_cons (wpAny_mono h₂ (fun v s₃ h₃ => args_nil h₃) fun _ _ x => x) hs
  rw [hs] at hm ⊢
  unfold callWith
  refine wpK.bindA (wpAny_holding (evalArgs_plain (wpAny_mono hm (fun vs s₃ h₃ => wpK.bindA (wpAny_standAt ?_)) fun _ _ x => x)))
  exact wpK.bindA (wpAny_pure (kTail h₃))
end
section
variable {M : Model} {A : Around} {E : Value → Shared → Prop} {s : Shared} {env : Env} {np pos : Pos} {e : PySem.Expr} {rest : List PySem.Expr} {f : Str} {Q : Value → Shared → Prop}
theorem ct_type (he : eval (.Call (.Name f np) (e :: rest) [] pos) env = (do callWith pos (← eval (.Name f np) env) [] (backTo pos (starEach (e :: rest) env)) (backToKw pos (keywordEach [] env))))
    (hs : starEach (e :: rest) env = (false, eval e env) :: starEach rest env) (hn : (backTo pos (starEach rest env)).any (·.1) = false)
    (h : wpAny M A (eval (.Name f np) env) (fun v s₁ => ∃ T, v = .type T ∧ wpAny M A (spliced (backTo pos (starEach (e :: rest) env))) (fun vs s₂ => wpAny M A (call (.type T) vs) Q E s₂) E s₁) E s) :
    wpAny M A (eval (.Call (.Name f np) (e :: rest) [] pos) env) Q E s := by
  refine Call_ (wpAny_mono h (fun v s₁ h₁ => ?_) fun _ _ x => x) he
  obtain ⟨T, rfl, h₁⟩ := h₁
  rw [hs] at h₁ ⊢
  exact PyProof.Rows.callWith_type (by show (false || (backTo pos (starEach rest env)).any (·.1)) = false; rw [hn]; rfl) (evalArgs_plain h₁)
theorem ct_blt (he : eval (.Call (.Name f np) (e :: rest) [] pos) env = (do callWith pos (← eval (.Name f np) env) [] (backTo pos (starEach (e :: rest) env)) (backToKw pos (keywordEach [] env))))
    (hs : starEach (e :: rest) env = (false, eval e env) :: starEach rest env) (hn : (backTo pos (starEach rest env)).any (·.1) = false)
    (h : wpAny M A (eval (.Name f np) env) (fun v s₁ => ∃ id, v = .builtin id ∧ wpAny M A (spliced (backTo pos (starEach (e :: rest) env))) (fun vs s₂ => wpAny M A (call (.builtin id) vs) Q E s₂) E s₁) E s) :
    wpAny M A (eval (.Call (.Name f np) (e :: rest) [] pos) env) Q E s := by
  refine Call_ (wpAny_mono h (fun v s₁ h₁ => ?_) fun _ _ x => x) he
  obtain ⟨id, rfl, h₁⟩ := h₁
  rw [hs] at h₁ ⊢
  exact callWith_builtin (by show (false || (backTo pos (starEach rest env)).any (·.1)) = false; rw [hn]; rfl) (evalArgs_plain h₁)
end
section
variable {prog : Program} {w : World} {A : Around} {E : Value → Shared → Prop} {s : Shared} {env : Env} {s₀ : Shared} {b₀ b b' : Heap} {L : Addr} {own : List (Addr × Obj)} {m : Str → Option Value}

/-- many of own turned, things may be made beside -/
theorem Fm.many {ios ios' : List (Addr × Obj)} {h' : Heap} {n : Nat} (F : Fm s₀ b₀ b L (own ++ ios) m s) (hk : ∀ a o, a ∉ ios.map (·.1) → s.heap.get? a = some o → h'.get? a = some o)
    (hm : ios'.map (·.1) = ios.map (·.1)) (hl : ∀ p ∈ ios', h'.get? p.1 = some p.2) : Fm s₀ b₀ b L (own ++ ios') m { s with heap := h', toks := n } := by
  have at_ : ∀ a ∈ ios.map (·.1), ∃ o, (a, o) ∈ own ++ ios := fun a ha => by
    obtain ⟨p, hp, rfl⟩ := List.mem_map.mp ha
    exact ⟨p.2, List.mem_append_right _ hp⟩
  have map_eq : (own ++ ios').map (·.1) = (own ++ ios).map (·.1) := by rw [List.map_append, List.map_append, hm]
  have dis : ∀ a, a ∈ own.map (·.1) → a ∉ ios.map (·.1) := fun a ha hi => by
    obtain ⟨p, hp, rfl⟩ := List.mem_map.mp ha
    obtain ⟨q, hq, e⟩ := List.mem_map.mp hi
    exact (List.pairwise_append.mp F.dis).2.2 p hp q hq e.symm
  have notin : ∀ a o, s₀.heap.get? a = some o ∨ b.get? a = some o ∨ a = L → a ∉ ios.map (·.1) := fun a o h hi => by
    obtain ⟨o', ho⟩ := at_ a hi
    have H := F.has _ ho
    rcases h with h | h | h
    · rw [H.2.1] at h; cases h
    · rw [H.2.2.1] at h; cases h
    · exact H.2.2.2 h
  refine ⟨?_, ⟨Keeps.mk' (fun p o e => hk p o (notin p o (.inl e)) (Keeps.le F.ex.keep p o e)) ⟨(Keeps.same F.ex.keep).1, (Keeps.same F.ex.keep).2.1, (Keeps.same F.ex.keep).2.2⟩, F.ex.up, fun p o e => hk p o (notin p o (.inr (.inl e))) (F.ex.le p o e), F.ex.new⟩, F.outL, fun p hp => ?_, ?_⟩
  · obtain ⟨oL, es, ep, hL, r'⟩ := F.ns
    exact ⟨oL, es, ep, hk L oL (notin L oL (.inr (.inr rfl))) hL, r'⟩
  · rcases List.mem_append.mp hp with hp | hp
    · have P := F.has p (List.mem_append_left _ hp)
      exact ⟨hk _ _ (dis _ (List.mem_map_of_mem hp)) P.1, P.2⟩
    · have : p.1 ∈ ios.map (·.1) := hm ▸ List.mem_map_of_mem hp
      obtain ⟨o', ho⟩ := at_ _ this
      have P := F.has _ ho
      exact ⟨hl p hp, P.2⟩
  · have h1 : ((own ++ ios).map (·.1)).Pairwise (· ≠ ·) := List.pairwise_map.mpr F.dis
    rw [← map_eq] at h1
    exact List.pairwise_map.mp h1
theorem Fm.manyDrop {ios : List (Addr × Obj)} {h' : Heap} {n : Nat} (F : Fm s₀ b₀ b L (own ++ ios) m s) (hk : ∀ a o, a ∉ ios.map (·.1) → s.heap.get? a = some o → h'.get? a = some o) : Fm s₀ b₀ b L own m { s with heap := h', toks := n } := by
  have dis : ∀ a, a ∈ own.map (·.1) → a ∉ ios.map (·.1) := fun a ha hi => by
    obtain ⟨p, hp, rfl⟩ := List.mem_map.mp ha
    obtain ⟨q, hq, e⟩ := List.mem_map.mp hi
    exact (List.pairwise_append.mp F.dis).2.2 p hp q hq e.symm
  have notin : ∀ a o, s₀.heap.get? a = some o ∨ b.get? a = some o ∨ a = L → a ∉ ios.map (·.1) := fun a o h hi => by
    obtain ⟨p, hp, rfl⟩ := List.mem_map.mp hi
    have H := F.has _ (List.mem_append_right _ hp)
    rcases h with h | h | h
    · rw [H.2.1] at h; cases h
    · rw [H.2.2.1] at h; cases h
    · exact H.2.2.2 h
  refine ⟨?_, ⟨Keeps.mk' (fun p o e => hk p o (notin p o (.inl e)) (Keeps.le F.ex.keep p o e)) ⟨(Keeps.same F.ex.keep).1, (Keeps.same F.ex.keep).2.1, (Keeps.same F.ex.keep).2.2⟩, F.ex.up, fun p o e => hk p o (notin p o (.inr (.inl e))) (F.ex.le p o e), F.ex.new⟩, F.outL, fun p hp => ?_, (List.pairwise_append.mp F.dis).1⟩
  · obtain ⟨oL, es, ep, hL, r'⟩ := F.ns
    exact ⟨oL, es, ep, hk L oL (notin L oL (.inr (.inr rfl))) hL, r'⟩
  · have P := F.has p (List.mem_append_left _ hp)
    exact ⟨hk _ _ (dis _ (List.mem_map_of_mem hp)) P.1, P.2⟩

/-- an iterator at I -/
structure Iter (prog : Program) (w : World) (A : Around) (b : Heap) (I : Addr) (n : Nat) (P : Nat → Value → Prop) (fp : List Addr) (St : Nat → Heap → Prop) : Prop where
  W : Walks prog w A I fp [I] n P St
  known : ∀ a ∈ fp, a ≠ I → ∃ o, b.get? a = some o
  live : ∀ i h, St i h → ∃ o, h.get? I = some o
  go : ∀ i elts k pos v (s : Shared) (Q : Unit → Shared → Prop) (E : Value → Shared → Prop), St i s.heap → Q () s → wpAny (model prog w) A (letOwnedTupleGo (.Tuple elts k pos) (.ref I) v) Q E s

/-- what a value's iterator walks through -/
def IterOf (prog : Program) (w : World) (A : Around) (x : Value) (b : Heap) (n : Nat) (P : Nat → Value → Prop) (s : Shared) : Prop :=
  ∀ (Q : Value → Shared → Prop) (E : Value → Shared → Prop), (∀ I fp St s', Iter prog w A b I n P fp St → Keeps s s' → s.heap.get? I = none → St 0 s'.heap → Q (.ref I) s') → wpAny (model prog w) A (pyIter x) Q E s

theorem iter_list {l : Addr} {items : Array Value} (hh : A.handled = none) (le : b.StaysIn s.heap) (hl : b.IsList l items) : IterOf prog w A (.ref l) b items.size (fun i v => items[i]? = some v) s := by
  intro Q E h
  have hl' : s.heap.IsList l items := hl.at fun o e => le _ _ e
  obtain ⟨ol, hol, _⟩ := id hl'
  obtain ⟨ob, hob, _⟩ := id hl
  have hne : l ≠ s.heap.objs.size := Nat.ne_of_lt (Heap.lt_size hol)
  refine wpAny_pyIter_list hl' (h _ [s.heap.objs.size, l] (fun i h => h.IsListIter s.heap.objs.size l i ∧ h.IsList l items) _ ⟨Walks.list hh _ l hne items, fun a ha hI => ?_, fun i h st => ?_, fun i elts k pos v s₁ Q E st hq => ?_⟩ ?_ none_size ⟨?_, hl'.push _⟩)
  · rcases List.mem_cons.mp ha with rfl | ha
    · exact absurd rfl hI
    · obtain rfl := List.mem_singleton.mp ha; exact ⟨_, hob⟩
  · obtain ⟨o, ho, _⟩ := st.1; exact ⟨o, ho⟩
  · obtain ⟨o, ho, hc, hd⟩ := st.1
    unfold letOwnedTupleGo
    cases v with
    | ref T =>
      refine wpAny_bind (wpAny_load ho ?_)
      rw [hc, hd]
      exact wpAny_pure hq
    | _ => exact wpAny_pure hq
  · exact Keeps.mk' (fun _ _ e => Heap.get?_push_of_some _ e) ⟨rfl, rfl, rfl⟩
  · exact ⟨_, Heap.get?_push_size _ rfl, rfl, rfl⟩

theorem iter_str {x : Str} {t : Tok} (hh : A.handled = none) : IterOf prog w A (.str x t) b x.cps.size (SignAt x) s := by
  intro Q E h
  have go : ∀ T, (T = "str_ascii_iterator" ∨ T = "str_iterator") → ∀ i elts k pos v (s₁ : Shared) (Q : Unit → Shared → Prop) (E : Value → Shared → Prop), s₁.heap.IsStrIter s.heap.objs.size T x t i → Q () s₁ →
      wpAny (model prog w) A (letOwnedTupleGo (.Tuple elts k pos) (.ref s.heap.objs.size) v) Q E s₁ := by
    rintro T hT i elts k pos v s₁ Q E ⟨o, ho, hc, hd⟩ hq
    unfold letOwnedTupleGo
    cases v with
    | ref T' =>
      refine wpAny_bind (wpAny_load ho ?_)
      rw [hc, hd]
      rcases hT with rfl | rfl <;> exact wpAny_pure hq
    | _ => exact wpAny_pure hq
  have live : ∀ T i (h : Heap), h.IsStrIter s.heap.objs.size T x t i → ∃ o, h.get? s.heap.objs.size = some o := fun T i h st => by
    obtain ⟨o, ho, _⟩ := st; exact ⟨o, ho⟩
  cases ha : x.cps.all (· < 128)
  · refine wpAny_pyIter_wide ha (h _ [s.heap.objs.size] (fun i h => h.IsStrIter s.heap.objs.size "str_iterator" x t i) _ ⟨Walks.strWide hh _ x t, fun a ha hI => absurd (List.mem_singleton.mp ha) hI, live _, go _ (.inr rfl)⟩ (Keeps.mk' (fun _ _ e => Heap.get?_push_of_some _ e) ⟨rfl, rfl, rfl⟩) none_size ⟨_, Heap.get?_push_size _ rfl, rfl, rfl⟩)
  · refine wpAny_pyIter_ascii ha (h _ [s.heap.objs.size] (fun i h => h.IsStrIter s.heap.objs.size "str_ascii_iterator" x t i) _ ⟨Walks.strAscii hh _ x t, fun a ha hI => absurd (List.mem_singleton.mp ha) hI, live _, go _ (.inl rfl)⟩ (Keeps.mk' (fun _ _ e => Heap.get?_push_of_some _ e) ⟨rfl, rfl, rfl⟩) none_size ⟨_, Heap.get?_push_size _ rfl, rfl, rfl⟩)

theorem for_iter {target iter : PySem.Expr} {body : List Stmt} {pos : Pos} {Q : Flow → Shared → Prop} {n : Nat} {P : Nat → Value → Prop}
    (J : Nat → Heap → List (Addr × Obj) → (Str → Option Value) → Prop)
    (h : wpAny (model prog w) A (eval iter env) (fun x s₁ => ∃ b own m, Fm s₀ b₀ b L own m s₁ ∧ J 0 b own m ∧ IterOf prog w A x b n P s₁) (fun _ _ => False) s)
    (turn : ∀ i v b own m ios s, i < n → P i v → J i b own m → Fm s₀ b₀ b L (own ++ ios) m s → ∀ B : Flow → Shared → Prop, (∀ f s₃, (match f with
      | .next | .cont => ∃ b' own m, b.StaysIn b' ∧ J (i + 1) b' own m ∧ Fm s₀ b₀ b' L (own ++ ios) m s₃
      | .brk => Q .next s₃
      | .ret v => Q (.ret v) s₃) → B f s₃) → wpAny (model prog w) A (assign target env v) (fun _ s₂ => wpAny (model prog w) A (execs body env) B (fun _ _ => False) s₂) (fun _ _ => False) s)
    (done : ∀ b own m s, J n b own m → Fm s₀ b₀ b L own m s → Q .next s)
    (ht : (∃ x p, target = .Name x p) ∨ ∃ elts k p, target = .Tuple elts k p) (hs : ∀ x, foldedSetIterable iter env x = pure x) :
    wpAny (model prog w) A (exec (.For target iter body [] pos) env) Q E s := by
  refine wpAny_For (wpAny_mono h (fun x s₁ h₁ => ?_) fun _ _ e => e.elim) hs
  obtain ⟨b₁, own₁, m₁, F₁, hJ₁, hI⟩ := h₁
  refine hI _ _ fun I fp St s₂ it k hnew st => ?_
  obtain ⟨oI, hoI⟩ := it.live _ _ st
  have F₂ : Fm s₀ b₀ b₁ L (own₁ ++ [(I, oI)]) m₁ s₂ := (F₁.newOwn k hnew hoI).perm (List.perm_append_singleton (I, oI) own₁).symm
  refine codeAny_forLoop_any (fun c s => ∃ i b own m oI, c = n - i ∧ i ≤ n ∧ b₁.StaysIn b ∧ J i b own m ∧ Fm s₀ b₀ b L (own ++ [(I, oI)]) m s ∧ St i s.heap) (fun c s hc => ?_) n
    ⟨0, b₁, own₁, m₁, oI, rfl, Nat.zero_le _, StaysIn.refl _, hJ₁, F₂, st⟩
  obtain ⟨i, b, own, m, oI, rfl, hin, hb, hJ, F, st⟩ := hc
  by_cases hlt : i < n
  · refine it.W.item i s _ _ hlt st fun v h' tk hP st' hk => ?_
    obtain ⟨oI', hoI'⟩ := it.live _ _ st'
    have F' : Fm s₀ b₀ b L (own ++ [(I, oI')]) m { s with heap := h', toks := tk } := F.many (fun a o ha e => hk a o ha e) rfl (fun p hp => by obtain rfl := List.mem_singleton.mp hp; exact hoI')
    have tail : wpAny (model prog w) A (assign target env v) (fun _ s₂ => wpAny (model prog w) A (execs body env) (fun f s₃ => match f with
            | .next | .cont => ∃ m', m' < n - i ∧ ∃ j b own m oI, m' = n - j ∧ j ≤ n ∧ b₁.StaysIn b ∧ J j b own m ∧ Fm s₀ b₀ b L (own ++ [(I, oI)]) m s₃ ∧ St j s₃.heap
            | .brk => Q .next s₃
            | .ret v => Q (.ret v) s₃) (fun _ _ => False) s₂) (fun _ _ => False) { s with heap := h', toks := tk } := by
      refine wpAny_mono (turn i v b own m _ _ hlt hP hJ F' (fun f s₃ => match f with | .next | .cont => ∃ b' own m, b.StaysIn b' ∧ J (i + 1) b' own m ∧ Fm s₀ b₀ b' L (own ++ [(I, oI')]) m s₃ | .brk => Q .next s₃ | .ret v => Q (.ret v) s₃) fun _ _ h => h) (fun _ s₂ h₂ => wpAny_mono h₂ (fun f s₃ h₃ => ?_) fun _ _ x => x) fun _ _ x => x
      have nx : (∃ b' own m, b.StaysIn b' ∧ J (i + 1) b' own m ∧ Fm s₀ b₀ b' L (own ++ [(I, oI')]) m s₃) → ∃ m', m' < n - i ∧ ∃ j b own m oI, m' = n - j ∧ j ≤ n ∧ b₁.StaysIn b ∧ J j b own m ∧ Fm s₀ b₀ b L (own ++ [(I, oI)]) m s₃ ∧ St j s₃.heap := by
        rintro ⟨b', own', m', hbb, hJ', F''⟩
        refine ⟨n - (i + 1), by omega, i + 1, b', own', m', oI', rfl, hlt, StaysIn.trans hb hbb, hJ', F'', ?_⟩
        refine it.W.frame _ _ _ st' fun a ha o e => ?_
        by_cases haI : a = I
        · subst haI
          have hI' := (F''.has (a, oI') (List.mem_append_right _ (List.mem_singleton.mpr rfl))).1
          have e : h'.get? a = some o := e
          rw [hoI'] at e; cases e; exact hI'
        · obtain ⟨ob, hob⟩ := it.known a ha haI
          have e : h'.get? a = some o := e
          have hob' := hb _ _ hob
          have q := F'.le _ _ hob'
          have q : h'.get? a = some ob := q
          rw [q] at e; cases e
          exact F''.le _ _ (hbb _ _ hob')
      cases f with
      | next => exact nx h₃
      | cont => exact nx h₃
      | brk => exact h₃
      | ret v => exact h₃
    rcases ht with ⟨x, p, rfl⟩ | ⟨elts, kk, p, rfl⟩
    · exact wpAny_mono (E := fun _ _ => False) (wpAny_pure tail) (fun _ s₂ h₂ => wpAny_mono h₂ (fun _ s₃ h₃ => wpAny_mono h₃ (fun f s₄ h₄ => by cases f <;> exact h₄) fun _ _ x => x.elim) fun _ _ x => x.elim) fun _ _ x => x.elim
    · exact wpAny_mono (E := fun _ _ => False) (it.go (i + 1) elts kk p v _ _ _ st' tail) (fun _ s₂ h₂ => wpAny_mono h₂ (fun _ s₃ h₃ => wpAny_mono h₃ (fun f s₄ h₄ => by cases f <;> exact h₄) fun _ _ x => x.elim) fun _ _ x => x.elim) fun _ _ x => x.elim
  · obtain rfl : i = n := by omega
    refine it.W.done s _ _ st fun h' tk hk => ?_
    have F' : Fm s₀ b₀ b L own m { s with heap := h', toks := tk } := F.manyDrop fun a o ha e => hk a o ha e
    exact wpAny_execs_nil (done _ _ _ _ hJ F')
end
section
variable {prog : Program} {w : World} {A : Around} {E : Value → Shared → Prop} {s : Shared} {env : Env} {s₀ : Shared} {b₀ b b' : Heap} {L : Addr} {own : List (Addr × Obj)} {m : Str → Option Value}
def enumObj (it : Addr) (i : Int) (old : Value) (out : Value) : Obj := { cls := .type "enumerate", dict := none, data := .fields #[out, .bool false, .ref it, rawInt i, .none, old], slots := #[] }
def enumMap (xi xv : Str) (i : Int) (t : Tok) (v : Value) (m : Str → Option Value) : Str → Option Value := upd (upd m xi (.int i t)) xv v

theorem for_enumK {xi xv : Str} {pi pv pt pos : Pos} {x1 : Nat} {iter : PySem.Expr} {body : List Stmt} {Q : Flow → Shared → Prop} {l : Addr} {vs : List Value} (hh : A.handled = none) (hl : b.IsList l vs.toArray)
    (hL : env.locals = L) (hk : env.scope.kind = .function) (hxi : env.kindOf xi = some .local) (hxv : env.kindOf xv = some .local)
    (J : Nat → List (Addr × Obj) → (Str → Option Value) → Prop)
    (h : wpAny (model prog w) A (eval iter env) (fun x s₁ => ∃ own m e it oi, x = .ref e ∧ Fm s₀ b₀ b L (own ++ [(e, enumObj it 0 .none .none), (it, oi)]) m s₁ ∧ s₁.heap.IsListIter it l 0 ∧ J 0 own m) (fun _ _ => False) s)
    (turn : ∀ (i : Nat) v own m ios t s, vs[i]? = some v → J i own m → Fm s₀ b₀ b L (own ++ ios) (enumMap xi xv i t v m) s → wpK (model prog w) A (execs body env) (fun f s₃ => match f with
      | .next | .cont => ∃ own m, J (i + 1) own m ∧ Fm s₀ b₀ b L (own ++ ios) m s₃
      | .brk => Q .next s₃
      | .ret v => Q (.ret v) s₃) (fun _ _ => False) s)
    (done : ∀ own m s, J vs.length own m → Fm s₀ b₀ b L own m s → Q .next s)
    (hs : ∀ x, foldedSetIterable iter env x = pure x) :
    wpK (model prog w) A (exec (.For (.Tuple [.Name xi pi, .Name xv pv] x1 pt) iter body [] pos) env) Q E s := by
  refine forK (wpAny_mono h (fun x s₁ h₁ => ?_) fun _ _ e => e.elim) hs
  obtain ⟨own, m, e, it, oi, rfl, F, hit, hJ⟩ := h₁
  have he : IsEnum s₁.heap e it (0 : Nat) .none := (F.has _ (List.mem_append_right _ (List.mem_cons_self ..))).1
  refine wpAny_pyIter_enum he ⟨fun c s => ∃ i : Nat, ∃ own m oi old, c = vs.length - i ∧ i ≤ vs.length ∧ J i own m ∧ Fm s₀ b₀ b L (own ++ [(e, enumObj it i old .none), (it, oi)]) m s ∧ s.heap.IsListIter it l i, vs.length, ⟨0, own, m, oi, .none, rfl, Nat.zero_le _, hJ, F, hit⟩, ?_⟩
  clear he hit hJ F
  rintro c s ⟨i, own, m, oi, old, rfl, hin, hJ, F, hit⟩
  have Pe := F.has (e, enumObj it i old .none) (List.mem_append_right _ (List.mem_cons_self ..))
  have Pi := F.has (it, oi) (List.mem_append_right _ (by simp))
  have he : IsEnum s.heap e it i old := Pe.1
  have hl' : s.heap.IsList l vs.toArray := hl.at fun o e => F.le _ _ e
  have hei : e ≠ it := (List.pairwise_cons.mp (List.pairwise_append.mp F.dis).2.1).1 (it, oi) (by simp)
  cases hv : vs[i]? with
  | none =>
    obtain rfl : i = vs.length := by have := List.getElem?_eq_none_iff.mp hv; omega
    refine wpAny_pyNext_enum_end hh he hit hl' (by simp) fun h₁ hx => ?_
    refine done own m _ hJ (F.manyDrop (n := s.toks) fun a o ha q => hx a o (fun z => ha (by simp [z])) q)
  | some v =>
    have hlt : i < vs.length := (List.getElem?_eq_some_iff.mp hv).1
    refine wpAny_pyNext_enum_item he hit hl' (x := v) (by simpa using hv) hei fun h₁ heo hit₁ ht₁ hz₁ hk₁ => ?_
    obtain ⟨oi₁, hoi₁, hoi₁'⟩ := id hit₁
    have F₁ : Fm s₀ b₀ b L (own ++ [(e, enumObj it ((i : Int) + 1) v (rawInt s.heap.objs.size)), (it, oi₁)]) m { s with heap := h₁, toks := s.toks + 1 } :=
      F.many (fun a o ha q => hk₁ a o (fun z => ha (by simp [z])) (fun z => ha (by simp [z])) q) rfl (fun p hp => by
        rcases List.mem_cons.mp hp with rfl | hp
        · exact heo
        · obtain rfl := List.mem_singleton.mp hp; exact hoi₁)
    refine wpAny_letOwnedTupleGo_enum heo fun h₂ he₂ hs₂ => ?_
    replace hs₂ : Heap.SameBut e h₁ h₂ := hs₂
    have hoi₂ : h₂.get? it = some oi₁ := (hs₂.2 it (Ne.symm hei)).trans hoi₁
    have F₂ : Fm s₀ b₀ b L (own ++ [(e, enumObj it ((i : Int) + 1) v .none), (it, oi₁)]) m { s with heap := h₂, toks := s.toks + 1 } :=
      F₁.many (fun a o ha q => (hs₂.2 a (fun z => ha (by simp [z]))).trans q) rfl (fun p hp => by
        rcases List.mem_cons.mp hp with rfl | hp
        · exact he₂
        · obtain rfl := List.mem_singleton.mp hp; exact hoi₂)
    have het : e ≠ s.heap.objs.size := Nat.ne_of_lt (Heap.lt_size Pe.1)
    have ht₂ : h₂.IsTuple s.heap.objs.size #[.int i s.toks, v] := ⟨_, (hs₂.2 _ (Ne.symm het)).trans ht₁, rfl, _, rfl⟩
    have hz₂ : h₂.objs.size = s.heap.objs.size + 1 := hs₂.1.trans hz₁
    refine wpAny_assign_Tuple hh ht₂ rfl rfl fun h₃ hx₃ => ?_
    replace hx₃ : Heap.ExtBut h₂.objs.size h₂ h₃ := hx₃
    have F₃ : Fm s₀ b₀ b L (own ++ [(e, enumObj it ((i : Int) + 1) v .none), (it, oi₁)]) m { s with heap := h₃, toks := s.toks + 1 } :=
      F₂.keeps (Keeps.mk' (fun a o q => hx₃ a o (Nat.ne_of_lt (Heap.lt_size q)) q) ⟨rfl, rfl, rfl⟩)
    show wpAny _ A (do holding [v] (assign (.Name xi pi) env (.int i s.toks)); do holding [] (assign (.Name xv pv) env v); pure ()) _ _ _
    refine wpAny_bind (wpAny_holding (wpAny_assign_Name (st_name F₃ hL hk hxi fun s₄ F₄ => ?_)))
    refine wpAny_bind (wpAny_holding (wpAny_assign_Name (st_name F₄ hL hk hxv fun s₅ F₅ => wpAny_pure ?_)))
    refine wpK.mono (turn i v own m _ _ s₅ hv hJ F₅) (fun f s₆ h₆ => ?_) fun _ _ x => x
    have nx : (∃ own m, J (i + 1) own m ∧ Fm s₀ b₀ b L (own ++ [(e, enumObj it ((i : Int) + 1) v .none), (it, oi₁)]) m s₆) → ∃ m, m < vs.length - i ∧ ∃ i : Nat, ∃ own m_1 oi old, m = vs.length - i ∧ i ≤ vs.length ∧ J i own m_1 ∧ Fm s₀ b₀ b L (own ++ [(e, enumObj it i old .none), (it, oi)]) m_1 s₆ ∧ s₆.heap.IsListIter it l i := by
      rintro ⟨own', m', hJ', F'⟩
      have c : ((i + 1 : Nat) : Int) = (i : Int) + 1 := by push_cast; rfl
      refine ⟨vs.length - (i + 1), by omega, i + 1, own', m', oi₁, v, rfl, hlt, hJ', by rw [c]; exact F', ?_⟩
      exact ⟨oi₁, (F'.has (it, oi₁) (List.mem_append_right _ (by simp))).1, hoi₁'⟩
    cases f with
    | next => exact nx h₆
    | cont => exact nx h₆
    | brk => exact h₆
    | ret v => exact h₆
end
section
variable {prog : Program} {w : World} {A : Around} {E : Value → Shared → Prop} {s : Shared} {env : Env} {s₀ : Shared} {b₀ b b' : Heap} {L : Addr} {own : List (Addr × Obj)} {m : Str → Option Value}
theorem try_ok {body : List Stmt} {h₀ : ExceptHandler} {hs : List ExceptHandler} {pos : Pos} {Q : Flow → Shared → Prop} (h : wpAny (model prog w) A (execs body env) Q (fun _ _ => False) s) : wpAny (model prog w) A (exec (.Try body (h₀ :: hs) [] [] pos) env) Q E s := by
  refine wpAny_Try_except (wpAny_mono h (fun f s₁ h₁ => ?_) fun _ _ x => x.elim)
  cases f with
  | next => exact wpAny_execs_nil h₁
  | _ => exact h₁

def TupI (h : Heap) (a : Addr) (is : List Int) : Prop := ∃ vs, h.IsTuple a vs.toArray ∧ IntsAre vs is
theorem IsTuple_keeps {h h' : Heap} {a : Addr} {xs : Array Value} (x : h.IsTuple a xs) (k : h.StaysIn h') : h'.IsTuple a xs := by
  obtain ⟨o, ho, r⟩ := x; exact ⟨o, k _ _ ho, r⟩
theorem IsList_keeps {h h' : Heap} {a : Addr} {xs : Array Value} (x : h.IsList a xs) (k : h.StaysIn h') : h'.IsList a xs := by
  obtain ⟨o, ho, r⟩ := x; exact ⟨o, k _ _ ho, r⟩
theorem TupI.keeps {h h' : Heap} {a : Addr} {is : List Int} (x : TupI h a is) (k : h.StaysIn h') : TupI h' a is := by
  obtain ⟨vs, t, i⟩ := x; exact ⟨vs, IsTuple_keeps t k, i⟩

theorem new_tuple {vs : List Value} {Q : Value → Shared → Prop} (F : Fm s₀ b₀ b L own m s) (hz : vs.length ≤ sizeLine)
    (h : ∀ a b' s', b.StaysIn b' → Fm s₀ b₀ b' L own m s' → b'.IsTuple a vs.toArray → Q (.ref a) s') : wpAny (model prog w) A (newTuple vs) Q E s := by
  have k : Keeps s { s with heap := s.heap.push { cls := .type "tuple", data := .seq vs.toArray } } := Keeps.mk' (fun _ _ e => Heap.get?_push_of_some _ e) ⟨rfl, rfl, rfl⟩
  have X := Ex.know (a := s.heap.objs.size) F.le k none_size
  refine wpAny_newObj_type (h _ _ _ X.up (F.call X) ⟨_, only_iff.mpr ⟨.inr rfl, Heap.get?_push_size _ rfl⟩, rfl, _, rfl⟩) (by show vs.toArray.size ≤ sizeLine; rw [List.size_toArray]; exact hz)
end
theorem ints2 {i j i' j' : Int} {t u : Tok} (h : i = i') (h2 : j = j') : IntsAre [.int i t, .int j u] [i', j'] := by subst h h2; exact .cons _ _ (.cons _ _ .nil)
theorem small_len {n : Nat} (h : n ≤ 1000) : n ≤ sizeLine := by rw [sizeLine_eq]; omega
def S (l : List Nat) : Str := ⟨l.toArray⟩
theorem S_len (l : List Nat) : (S l).length = l.length := by simp [S, Str.length]
theorem S_app (a c : List Nat) : S a ++ S c = S (a ++ c) := by
  refine Str.ext' ?_
  rw [Str.cps_append]; simp [S]
section
variable {prog : Program} {w : World} {A : Around} {E : Value → Shared → Prop} {s : Shared} {env : Env} {s₀ : Shared} {b₀ b b' : Heap} {L : Addr} {own : List (Addr × Obj)} {m : Str → Option Value}
theorem part_none {M : Model} {Q : Value → Shared → Prop} (h : Q .none s) : wpAny M A (evalPart none env) Q E s := wpAny_pure h
theorem part_some {M : Model} {e : PySem.Expr} {Q : Value → Shared → Prop} (h : wpAny M A (eval e env) Q E s) : wpAny M A (evalPart (some e) env) Q E s := h
theorem sub_str {value : PySem.Expr} {lower upper : Option PySem.Expr} {p pos : Pos} {Q : Value → Shared → Prop}
    (h : wpAny (model prog w) A (eval value env) (fun o s₁ => wpAny (model prog w) A (evalPart lower env) (fun vl s₂ => wpAny (model prog w) A (evalPart upper env) (fun vu s₃ =>
      ∃ s₀ b₀ L x t l u b own m, o = .str x t ∧ vl = partValue l ∧ vu = partValue u ∧ x.length ≤ sizeLine ∧ Fm s₀ b₀ b L own m s₃ ∧ ∀ t' s', Fm s₀ b₀ b L own m s' → Q (.str (Txt.slice x (l.map (·.1)) (u.map (·.1))) t') s') E s₂) E s₁) E s)
    (ht : ∀ o r, letTemporaryGo value o r = pure ()) : wpAny (model prog w) A (eval (.Subscript value (.Slice lower upper none p) pos) env) Q E s := by
  refine wpAny_Subscript_Slice (T := "str") F.slot_str_getitem.lookup (wpAny_mono h (fun o s₁ h₁ => wpAny_Slice (wpAny_mono h₁ (fun vl s₂ h₂ => wpAny_mono h₂ (fun vu s₃ h₃ => ?_) fun _ _ e => e) fun _ _ e => e)) fun _ _ e => e) ht
  obtain ⟨s₀, b₀, L, x, t, l, u, b, own, m, rfl, rfl, rfl, hz, F, hQ⟩ := h₃
  refine part_none ⟨typeIs_str _ _ _, wpAny_getItem_str_slice (l := l) (u := u) (st := none) ⟨_, Heap.get?_push_size _ rfl, rfl, rfl⟩ rfl (post_val_or_str ⟨?_, fun t' k => ?_⟩)⟩
  · exact Nat.le_trans (Txt.slice_le x _ _) hz
  · exact hQ t' _ (F.keeps (Keeps.push _))
theorem sub_bslice {value : PySem.Expr} {lower upper : Option PySem.Expr} {p pos : Pos} {Q : Value → Shared → Prop}
    (h : wpAny (model prog w) A (eval value env) (fun o s₁ => wpAny (model prog w) A (evalPart lower env) (fun vl s₂ => wpAny (model prog w) A (evalPart upper env) (fun vu s₃ =>
      ∃ s₀ b₀ L x t lo hi b own m, o = .bytes x t ∧ IsPart vl lo ∧ IsPart vu hi ∧ x.size ≤ sizeLine ∧ Fm s₀ b₀ b L own m s₃ ∧ ∀ t' s', Fm s₀ b₀ b L own m s' → Q (.bytes ((x.toList.drop (lo.elim 0 (clipAt x.size))).take (hi.elim x.size (clipAt x.size) - lo.elim 0 (clipAt x.size))).toArray t') s') E s₂) E s₁) E s)
    (ht : ∀ o r, letTemporaryGo value o r = pure ()) : wpAny (model prog w) A (eval (.Subscript value (.Slice lower upper none p) pos) env) Q E s := by
  refine wpAny_Subscript_Slice (T := "bytes") PySem.W.FB.slot_bytes_getitem.lookup (wpAny_mono h (fun o s₁ h₁ => wpAny_Slice (wpAny_mono h₁ (fun vl s₂ h₂ => wpAny_mono h₂ (fun vu s₃ h₃ => ?_) fun _ _ e => e) fun _ _ e => e)) fun _ _ e => e) ht
  obtain ⟨s₀, b₀, L, x, t, lo, hi, b, own, m, rfl, hl, hu, hz, F, hQ⟩ := h₃
  refine part_none ⟨PySem.W.typeIs_bytes _ _ _, getItem_meets (PySem.W.typeIs_bytes _ _ _) (by decide) PySem.W.FB.slot_bytes_getitem PySem.W.FB.entry_bytes_getitem (PySem.W.FB.args_bytes_getitem_2 _ _) (PySem.W.KBc.meets_slice2 x t _ hl hu)
    ⟨Heap.IsSliceOf.new _ _ _ _, Nat.le_trans (PySem.W.KBc.size_picked_le x lo hi) hz, fun t' k => ?_⟩⟩
  rw [PySem.W.KBc.picked_eq]
  exact hQ _ _ (F.keeps (Keeps.push _))

theorem l_str {x : Str} {t : Tok} {Q : Value → Shared → Prop} (F : Fm s₀ b₀ b L own m s) (hz : x.length ≤ 1000000000) (h : ∀ t s', Fm s₀ b₀ b L own m s' → Q (.int x.length t) s') : wpAny (model prog w) A (call (.builtin "len") [.str x t]) Q E s :=
  PyProof.Rows.len_str (by omega) (h _ _ F.toks)
theorem l_bytes {x : Array UInt8} {t : Tok} {Q : Value → Shared → Prop} (F : Fm s₀ b₀ b L own m s) (hz : x.size ≤ 1000000000) (h : ∀ t s', Fm s₀ b₀ b L own m s' → Q (.int x.size t) s') : wpAny (model prog w) A (call (.builtin "len") [.bytes x t]) Q E s :=
  PySem.W.len_bytes (by omega) (h _ _ F.toks)
theorem c_chr {i : Int} {t : Tok} {Q : Value → Shared → Prop} (F : Fm s₀ b₀ b L own m s) (h0 : 0 ≤ i) (h1 : i ≤ 1114111) (h : ∀ t s', Fm s₀ b₀ b L own m s' → Q (.str (S [i.toNat]) t) s') : wpAny (model prog w) A (call (.builtin "chr") [.int i t]) Q E s :=
  chr_of_range h0 h1 (h _ _ F.toks)
theorem o_ord {x : Str} {c : Nat} {t : Tok} {Q : Value → Shared → Prop} (F : Fm s₀ b₀ b L own m s) (hx : x = S [c]) (h : ∀ t s', Fm s₀ b₀ b L own m s' → Q (.int c t) s') : wpAny (model prog w) A (call (.builtin "ord") [.str x t]) Q E s := by
  subst hx; exact PySem.P.ord_of_char (h _ _ F.toks)
theorem s_add {x y : Str} {t u : Tok} {Q : Value → Shared → Prop} (F : Fm s₀ b₀ b L own m s) (hz : x.length + y.length ≤ sizeLine) (h : ∀ t s', Fm s₀ b₀ b L own m s' → Q (.str (x ++ y) t) s') : wpAny (model prog w) A (binaryOp .Add (.str x t) (.str y u)) Q E s :=
  PyProof.Rows.add_str (fun t' tk => h _ _ F.toks) hz
theorem by_add {x y : Array UInt8} {t u : Tok} {Q : Value → Shared → Prop} (F : Fm s₀ b₀ b L own m s) (hz : x.size + y.size ≤ 16777216) (h : ∀ t s', Fm s₀ b₀ b L own m s' → Q (.bytes (x ++ y) t) s') : wpAny (model prog w) A (binaryOp .Add (.bytes x t) (.bytes y u)) Q E s :=
  PySem.W.KBy.add_bytes hz (fun t' k => h _ _ F.toks)
theorem c_none {k : Nat} {pos : Pos} {Q : Value → Shared → Prop} (h : Q .none s) : wpAny (model prog w) A (eval (.Constant .none k pos) env) Q E s := wpAny_pure h
theorem q_int_none {i : Int} {t : Tok} {Q : Value → Shared → Prop} (h : Q (.bool false) s) : wpAny (model prog w) A (compareOp .Is (.int i t) .none) Q E s := is_none h

theorem unpack2 {x1 x2 : Str} {p1 p2 pos : Pos} {k : Nat} {a : Addr} {v1 v2 : Value} {Q : Unit → Shared → Prop} (F : Fm s₀ b₀ b L own m s) (hh : A.handled = none) (hL : env.locals = L) (hk : env.scope.kind = .function) (h1 : env.kindOf x1 = some .local) (h2 : env.kindOf x2 = some .local)
    (hT : b.IsTuple a #[v1, v2]) (h : ∀ s', Fm s₀ b₀ b L own (upd (upd m x1 v1) x2 v2) s' → Q () s') : wpAny (model prog w) A (assign (.Tuple [.Name x1 p1, .Name x2 p2] k pos) env (.ref a)) Q E s := by
  refine wpAny_assign_Tuple hh (IsTuple_keeps hT F.le) rfl rfl fun h₃ hx₃ => ?_
  have F₃ : Fm s₀ b₀ b L own m { s with heap := h₃ } := F.keeps (Keeps.mk' (fun a o q => hx₃ a o (Nat.ne_of_lt (Heap.lt_size q)) q) ⟨rfl, rfl, rfl⟩)
  show wpAny _ A (do holding [v2] (assign (.Name x1 p1) env v1); do holding [] (assign (.Name x2 p2) env v2); pure ()) _ _ _
  refine wpAny_bind (wpAny_holding (wpAny_assign_Name (st_name F₃ hL hk h1 fun s₄ F₄ => ?_)))
  exact wpAny_bind (wpAny_holding (wpAny_assign_Name (st_name F₄ hL hk h2 fun s₅ F₅ => wpAny_pure (h _ F₅))))
theorem unpack3 {x1 x2 x3 : Str} {p1 p2 p3 pos : Pos} {k : Nat} {a : Addr} {v1 v2 v3 : Value} {Q : Unit → Shared → Prop} (F : Fm s₀ b₀ b L own m s) (hh : A.handled = none) (hL : env.locals = L) (hk : env.scope.kind = .function) (h1 : env.kindOf x1 = some .local) (h2 : env.kindOf x2 = some .local) (h3 : env.kindOf x3 = some .local)
    (hT : b.IsTuple a #[v1, v2, v3]) (h : ∀ s', Fm s₀ b₀ b L own (upd (upd (upd m x1 v1) x2 v2) x3 v3) s' → Q () s') : wpAny (model prog w) A (assign (.Tuple [.Name x1 p1, .Name x2 p2, .Name x3 p3] k pos) env (.ref a)) Q E s := by
  refine wpAny_assign_Tuple hh (IsTuple_keeps hT F.le) rfl rfl fun h₃ hx₃ => ?_
  have F₃ : Fm s₀ b₀ b L own m { s with heap := h₃ } := F.keeps (Keeps.mk' (fun a o q => hx₃ a o (Nat.ne_of_lt (Heap.lt_size q)) q) ⟨rfl, rfl, rfl⟩)
  show wpAny _ A (do holding [v2, v3] (assign (.Name x1 p1) env v1); do holding [v3] (assign (.Name x2 p2) env v2); do holding [] (assign (.Name x3 p3) env v3); pure ()) _ _ _
  refine wpAny_bind (wpAny_holding (wpAny_assign_Name (st_name F₃ hL hk h1 fun s₄ F₄ => ?_)))
  refine wpAny_bind (wpAny_holding (wpAny_assign_Name (st_name F₄ hL hk h2 fun s₅ F₅ => ?_)))
  exact wpAny_bind (wpAny_holding (wpAny_assign_Name (st_name F₅ hL hk h3 fun s₆ F₆ => wpAny_pure (h _ F₆))))
end
theorem slice_to {l : List Nat} {i : Int} (h0 : 0 ≤ i) (h1 : i ≤ l.length) : Txt.slice (S l) none (some i) = S (l.take i.toNat) := by
  have := slice_closes_to (x := S l) (j := i) ⟨h0, by simpa [S] using h1⟩
  have := eq_of_beq this
  rw [this]; simp [S]
theorem slice_from {l : List Nat} {i : Int} (h0 : 0 ≤ i) (h1 : i ≤ l.length) : Txt.slice (S l) (some i) none = S (l.drop i.toNat) := by
  have := slice_closes_from (x := S l) (i := i) ⟨h0, by simpa [S] using h1⟩
  have := eq_of_beq this
  rw [this]
  simp only [S]
  congr 2
  rw [List.take_of_length_le]
  simp only [List.length_drop]
  omega
section
variable {prog : Program} {w : World} {A : Around} {E : Value → Shared → Prop} {s : Shared} {env : Env} {s₀ : Shared} {b₀ b b' : Heap} {L : Addr} {own : List (Addr × Obj)} {m : Str → Option Value}
theorem l_strS {k : List Nat} {t : Tok} {Q : Value → Shared → Prop} (F : Fm s₀ b₀ b L own m s) (hz : k.length ≤ 1000000000) (h : ∀ t s', Fm s₀ b₀ b L own m s' → Q (.int k.length t) s') : wpAny (model prog w) A (call (.builtin "len") [.str (S k) t]) Q E s :=
  l_str F (by rw [S_len]; exact hz) (fun t s' F => by rw [S_len]; exact h t s' F)
theorem s_addS {a c : List Nat} {t u : Tok} {Q : Value → Shared → Prop} (F : Fm s₀ b₀ b L own m s) (hz : a.length + c.length ≤ 1000000) (h : ∀ t s', Fm s₀ b₀ b L own m s' → Q (.str (S (a ++ c)) t) s') : wpAny (model prog w) A (binaryOp .Add (.str (S a) t) (.str (S c) u)) Q E s :=
  s_add F (by rw [S_len, S_len, sizeLine_eq]; omega) (fun t s' F => by rw [S_app]; exact h t s' F)
theorem sub_to {value : PySem.Expr} {upper : PySem.Expr} {p pos : Pos} {Q : Value → Shared → Prop}
    (h : wpAny (model prog w) A (eval value env) (fun o s₁ => wpAny (model prog w) A (eval upper env) (fun vu s₃ =>
      ∃ s₀ b₀ L k t i u b own m, o = .str (S k) t ∧ vu = .int i u ∧ 0 ≤ i ∧ i ≤ k.length ∧ k.length ≤ 1000000 ∧ Fm s₀ b₀ b L own m s₃ ∧ ∀ t' s', Fm s₀ b₀ b L own m s' → Q (.str (S (k.take i.toNat)) t') s') E s₁) E s)
    (ht : ∀ o r, letTemporaryGo value o r = pure ()) : wpAny (model prog w) A (eval (.Subscript value (.Slice none (some upper) none p) pos) env) Q E s := by
  refine sub_str (wpAny_mono h (fun o s₁ h₁ => part_none (part_some (wpAny_mono h₁ (fun vu s₃ h₃ => ?_) fun _ _ x => x))) fun _ _ x => x) ht
  obtain ⟨s₀, b₀, L, k, t, i, u, b, own, m, rfl, rfl, h0, h1, hz, F, hQ⟩ := h₃
  refine ⟨s₀, b₀, L, _, _, none, some (i, u), b, own, m, rfl, rfl, rfl, by rw [S_len, sizeLine_eq]; omega, F, fun t' s' F' => ?_⟩
  show Q (.str (Txt.slice (S k) none (some i)) t') s'
  rw [slice_to h0 h1]; exact hQ _ _ F'
theorem sub_from {value : PySem.Expr} {lower : PySem.Expr} {p pos : Pos} {Q : Value → Shared → Prop}
    (h : wpAny (model prog w) A (eval value env) (fun o s₁ => wpAny (model prog w) A (eval lower env) (fun vu s₃ =>
      ∃ s₀ b₀ L k t i u b own m, o = .str (S k) t ∧ vu = .int i u ∧ 0 ≤ i ∧ i ≤ k.length ∧ k.length ≤ 1000000 ∧ Fm s₀ b₀ b L own m s₃ ∧ ∀ t' s', Fm s₀ b₀ b L own m s' → Q (.str (S (k.drop i.toNat)) t') s') E s₁) E s)
    (ht : ∀ o r, letTemporaryGo value o r = pure ()) : wpAny (model prog w) A (eval (.Subscript value (.Slice (some lower) none none p) pos) env) Q E s := by
  refine sub_str (wpAny_mono h (fun o s₁ h₁ => part_some (wpAny_mono h₁ (fun vu s₃ h₃ => part_none ?_) fun _ _ x => x)) fun _ _ x => x) ht
  obtain ⟨s₀, b₀, L, k, t, i, u, b, own, m, rfl, rfl, h0, h1, hz, F, hQ⟩ := h₃
  refine ⟨s₀, b₀, L, _, _, some (i, u), none, b, own, m, rfl, rfl, rfl, by rw [S_len, sizeLine_eq]; omega, F, fun t' s' F' => ?_⟩
  show Q (.str (Txt.slice (S k) (some i) none) t') s'
  rw [slice_from h0 h1]; exact hQ _ _ F'
theorem tup2 {h : Heap} {a : Addr} {i j : Int} (x : TupI h a [i, j]) : ∃ t u, h.IsTuple a #[.int i t, .int j u] := by
  obtain ⟨vs, hT, hI⟩ := x
  obtain _ | ⟨_, t, hI⟩ := hI
  obtain _ | ⟨_, u, hI⟩ := hI
  cases hI
  exact ⟨t, u, hT⟩
end
set_option hygiene false in
local macro_rules | `(tactic| walk_at "look") => `(tactic| first | with_reducible exact look_here | ((with_reducible apply look_there); kernel_rfl; walk_at "look") | assumption)
local macro_rules | `(tactic| walk_at "boot") => `(tactic| first | exact boot_len | exact boot_range | exact boot_bytearray | exact boot_bytes | exact boot_enumerate | exact boot_isinstance | exact boot_str | exact boot_memoryview | exact boot_ord | exact boot_chr | exact boot_sorted | exact boot_max | exact boot_sum | exact boot_divmod)
set_option hygiene false in
local macro_rules | `(tactic| walk_at "x_eval") => `(tactic| first
  | ((with_reducible change wpAny _ _ (eval (Expr.Name _ _) _) _ _ _); first | refine nm_local (by assumption) (by rfl) rfl (by kernel_rfl) (by walk_at "look") (by kernel_rfl) ?_ | refine nm_blt (by assumption) (by assumption) rfl rfl rfl (by kernel_rfl) (by walk_at "boot") (by decide +kernel) (by kernel_rfl) (by kernel_rfl) ?_)
  | ((with_reducible refine c_int (by assumption) ?_); intro t s F)
  | ((with_reducible refine c_str (by assumption) ?_); intro t s F)
  | ((with_reducible refine c_bytes (by assumption) ?_); intro t s F)
  | (with_reducible refine c_none ?_)
  | (with_reducible refine UnaryOp_ ?_)
  | (with_reducible refine wpAny_BinOp ?_)
  | (with_reducible refine wpAny_Compare1 ?_)
  | ((with_reducible change wpAny _ _ (eval (Expr.Subscript _ (Expr.Name _ _) _) _) _ _ _); refine Subscript_ ?_)
  | ((with_reducible change wpAny _ _ (eval (Expr.Subscript _ (Expr.BinOp _ _ _ _) _) _) _ _ _); refine Subscript_ ?_)
  | ((with_reducible change wpAny _ _ (eval (Expr.Subscript _ (Expr.Constant _ _ _) _) _) _ _ _); refine Subscript_ ?_)
  | (with_reducible refine Tuple_ ?_)
  | (with_reducible refine List_ ?_))
set_option hygiene false in
local macro_rules | `(tactic| walk_at "x_loadName") => `(tactic| first
  | ((with_reducible change wpAny _ _ (loadName _ _) _ _ _); refine ln_local (by assumption) (by rfl) rfl (by kernel_rfl) (by walk_at "look") ?_))
set_option hygiene false in
local macro_rules | `(tactic| walk_at "x_binaryOp") => `(tactic| first
  | ((with_reducible change wpAny _ _ (binaryOp Operator.Add (Value.str (S _) _) (Value.str (S _) _)) _ _ _); refine s_addS (by assumption) (by walk_at "sz") ?_; intro t s F)
  | ((with_reducible change wpAny _ _ (binaryOp Operator.Add (Value.str _ _) (Value.str _ _)) _ _ _); refine s_add (by assumption) (by walk_at "sz") ?_; intro t s F)
  | ((with_reducible change wpAny _ _ (binaryOp Operator.Add (Value.bytes _ _) (Value.bytes _ _)) _ _ _); refine by_add (by assumption) (by walk_at "sz") ?_; intro t s F)
  | ((with_reducible refine i_add (by assumption) ?_); intro t s F)
  | ((with_reducible refine i_sub (by assumption) ?_); intro t s F)
  | ((with_reducible change wpAny _ _ (binaryOp Operator.FloorDiv (Value.int _ _) (Value.int _ _)) _ _ _); refine i_div (by assumption) (by omega) (by omega) ?_; intro t s F)
  | ((with_reducible change wpAny _ _ (binaryOp Operator.Mod (Value.int _ _) (Value.int _ _)) _ _ _); refine i_mod (by assumption) (by omega) ?_; intro t s F)
  | ((with_reducible change wpAny _ _ (binaryOp Operator.Mult (Value.int _ _) (Value.int _ _)) _ _ _); refine i_mul (by assumption) (by first | (left; omega) | (right; omega)) ?_; intro t s F))
set_option hygiene false in
local macro_rules | `(tactic| walk_at "x_inplaceOp") => `(tactic| first
  | ((with_reducible refine i_iadd (by assumption) ?_); intro t s F)
  | ((with_reducible refine i_isub (by assumption) ?_); intro t s F)
  | ((with_reducible change wpAny _ _ (inplaceOp Operator.FloorDiv (Value.int _ _) (Value.int _ _)) _ _ _); refine i_idiv (by assumption) (by omega) (by omega) ?_; intro t s F))
set_option hygiene false in
local macro_rules | `(tactic| walk_at "x_compareOp") => `(tactic| first
  | (with_reducible refine q_int_none ?_)
  | (with_reducible refine q_eq ?_)
  | (with_reducible refine q_ne ?_)
  | (with_reducible refine q_lt ?_)
  | (with_reducible refine q_le ?_)
  | (with_reducible refine q_gt ?_)
  | (with_reducible refine q_ge ?_))
set_option hygiene false in
local macro_rules | `(tactic| walk_at "x_truthy") => `(tactic| first
  | (with_reducible refine wpAny_truthy_bool ?_)
  | (with_reducible refine PyProof.Rows.truthy_int ?_))
set_option hygiene false in
local macro_rules | `(tactic| walk_at "x_isTrue") => `(tactic| first
  | (with_reducible refine wpAny_isTrue_Compare1 ?_)
  | ((with_reducible change wpAny _ _ (isTrue (Expr.Name _ _) _ _) _ _ _); refine isTrue_plain ?_)
  | ((with_reducible change wpAny _ _ (isTrue (Expr.Constant _ _ _) _ _) _ _ _); refine isTrue_plain ?_)
  | (with_reducible refine isTrue_not ?_)
  | (with_reducible refine isTrue_and_nil ?_)
  | ((with_reducible change wpAny _ _ (isTrue (Expr.Compare _ (_ :: _ :: _) (_ :: _ :: _) _) _ _) _ _ _); refine isTrue_chain ?_ (by rfl)))
set_option hygiene false in
local macro_rules | `(tactic| walk_at "x_execs") => `(tactic| first
  | (with_reducible refine wpAny_execs_cons ?_)
  | (with_reducible refine wpAny_execs_nil ?_))
set_option hygiene false in
local macro_rules | `(tactic| walk_at "x_exec") => `(tactic| first
  | ((with_reducible change wpAny _ _ (exec (Stmt.Assign [Expr.Name _ _] _ _) _) _ _ _); refine wpAny_Assign_Name ?_ (by rfl))
  | (with_reducible refine wpAny_AugAssign_Name ?_)
  | (with_reducible refine wpAny_If ?_)
  | (with_reducible refine wpAny_Return_some ?_)
  | ((with_reducible change wpAny _ _ (exec (Stmt.Try _ (_ :: _) [] [] _) _) _ _ _); refine try_ok ?_))
set_option hygiene false in
local macro_rules | `(tactic| walk_at "x_storeName") => `(tactic| first
  | ((with_reducible change wpAny _ _ (storeName _ _ _) _ _ _); refine st_name (by assumption) (by rfl) rfl (by kernel_rfl) ?_; intro s F))
set_option hygiene false in
local macro_rules | `(tactic| walk_at "x_spliced") => `(tactic| first
  | ((with_reducible change wpAny _ _ (spliced (backTo _ (starEach (_ :: _) _))) _ _ _); refine wpAny_items_cons ?_ (by rfl))
  | (with_reducible refine wpAny_items_nil ?_))
set_option hygiene false in
local macro_rules | `(tactic| walk_at "x_subscriptTail") => `(tactic| first
  | ((with_reducible change wpAny _ _ (subscriptTail _ _ (Value.bytes _ _) (Value.int _ _)) _ _ _); refine sub_bytes (by assumption) (by omega) (by omega) (by omega) (by with_unfolding_all rfl) ?_; intro t s F))
set_option hygiene false in
local macro_rules | `(tactic| walk_at "x_testChain") => `(tactic| first
  | ((with_reducible change wpAny _ _ (testChain _ _ (_ :: _ :: _) (_ :: _ :: _)) _ _ _); refine test_link ?_)
  | ((with_reducible change wpAny _ _ (testChain _ _ [_] [_]) _ _ _); refine test_last ?_)
  | ((with_reducible change wpAny _ _ (testChain _ _ [_] _) _ _ _); refine test_last ?_))
set_option hygiene false in
local macro_rules | `(tactic| walk_at "x_ite") => `(tactic| first
  | ((with_reducible change if decide _ = true then _ else _); refine if_dec (fun hc => ?_) (fun hc => ?_))
  | ((with_reducible change if true = true then _ else _); refine if_tt ?_)
  | ((with_reducible change if false = true then _ else _); refine if_ff ?_)
  | ((with_reducible change if (1 != 0) = true then _ else _); refine if_pos_known rfl ?_)
  | ((with_reducible change if _ = true then _ else _); refine if_bool (fun hc => ?_) (fun hc => ?_)))
set_option hygiene false in
local macro_rules | `(tactic| walk_at "x_evalPart") => `(tactic| first
  | (with_reducible refine part_none ?_)
  | (with_reducible refine part_some ?_))
set_option hygiene false in
local macro_rules | `(tactic| walk_at "x_unaryOp") => `(tactic| first
  | ((with_reducible refine i_neg (by assumption) ?_); intro t s F))
set_option hygiene false in
local macro_rules | `(tactic| walk_at "x") => `(tactic| first
  | ((with_reducible change wpAny _ _ (unaryOp _ _) _ _ _); walk_at "x_unaryOp")
  | ((with_reducible change wpAny _ _ (evalPart _ _) _ _ _); walk_at "x_evalPart")
  | ((with_reducible change wpAny _ _ (eval _ _) _ _ _); walk_at "x_eval")
  | ((with_reducible change wpAny _ _ (loadName _ _) _ _ _); walk_at "x_loadName")
  | ((with_reducible change wpAny _ _ (binaryOp _ _ _) _ _ _); walk_at "x_binaryOp")
  | ((with_reducible change wpAny _ _ (inplaceOp _ _ _) _ _ _); walk_at "x_inplaceOp")
  | ((with_reducible change wpAny _ _ (compareOp _ _ _) _ _ _); walk_at "x_compareOp")
  | ((with_reducible change wpAny _ _ (truthy _) _ _ _); walk_at "x_truthy")
  | ((with_reducible change wpAny _ _ (isTrue _ _ _) _ _ _); walk_at "x_isTrue")
  | ((with_reducible change wpAny _ _ (execs _ _) _ _ _); walk_at "x_execs")
  | ((with_reducible change wpAny _ _ (exec _ _) _ _ _); walk_at "x_exec")
  | ((with_reducible change wpAny _ _ (storeName _ _ _) _ _ _); walk_at "x_storeName")
  | ((with_reducible change wpAny _ _ (spliced _) _ _ _); walk_at "x_spliced")
  | ((with_reducible change wpAny _ _ (subscriptTail _ _ _ _) _ _ _); walk_at "x_subscriptTail")
  | ((with_reducible change wpAny _ _ (testChain _ _ _ _) _ _ _); walk_at "x_testChain")
  | walk_at "x_ite")
set_option hygiene false in
local macro_rules | `(tactic| walk_at "xs") => `(tactic| repeat' (walk_at "x"))

set_option hygiene false in
local macro_rules | `(tactic| walk_at "ct") => `(tactic| first | (refine ct_type rfl rfl rfl ?_; walk_at "x"; refine ⟨_, rfl, ?_⟩; walk_at "xs") | (refine ct_blt rfl rfl rfl ?_; walk_at "x"; refine ⟨_, rfl, ?_⟩; walk_at "xs"))

local macro_rules | `(tactic| walk_at "sz") => `(tactic| first | omega | (simp only [S_len, S_app, Str.length_append, List.length_append, List.length_take, List.length_drop, List.length_cons, List.length_nil, sizeLine_eq, Array.size_append, List.size_toArray]; omega))
set_option hygiene false in
local macro_rules | `(tactic| walk_at "len") => `(tactic| (refine ct_blt rfl rfl rfl ?_; walk_at "x"; refine ⟨_, rfl, ?_⟩; walk_at "xs"; first | (refine l_strS (by assumption) (by walk_at "sz") ?_; intro t s F) | (refine l_str (by assumption) (by walk_at "sz") ?_; intro t s F) | (refine l_bytes (by assumption) (by walk_at "sz") ?_; intro t s F) | (refine l_list (by assumption) (by assumption) (by walk_at "sz") ?_; intro t s F)))

set_option hygiene false in
local macro_rules | `(tactic| walk_at "chr") => `(tactic| (refine ct_blt rfl rfl rfl ?_; walk_at "x"; refine ⟨_, rfl, ?_⟩; walk_at "xs"; refine c_chr (by assumption) (by omega) (by omega) ?_; intro t s F))
set_option hygiene false in
local macro_rules | `(tactic| walk_at "sub_to") => `(tactic| (refine sub_to ?_ (fun _ _ => rfl); walk_at "xs"; refine ⟨_, _, _, _, _, _, _, _, _, _, rfl, rfl, by omega, by omega, by omega, F, ?_⟩; intro t s F))
set_option hygiene false in
local macro_rules | `(tactic| walk_at "sub_from") => `(tactic| (refine sub_from ?_ (fun _ _ => rfl); walk_at "xs"; refine ⟨_, _, _, _, _, _, _, _, _, _, rfl, rfl, by omega, by omega, by omega, F, ?_⟩; intro t s F))

set_option hygiene false in
local macro_rules | `(tactic| walk_at "sub_bto") => `(tactic| (refine sub_bto ?_ (fun _ _ => rfl); walk_at "xs"; refine ⟨_, _, _, _, _, _, _, _, _, _, rfl, rfl, by omega, by omega, by omega, F, ?_⟩; intro t s F))
set_option hygiene false in
local macro_rules | `(tactic| walk_at "sub_bfrom") => `(tactic| (refine sub_bfrom ?_ (fun _ _ => rfl); walk_at "xs"; refine ⟨_, _, _, _, _, _, _, _, _, _, rfl, rfl, by omega, by omega, by omega, F, ?_⟩; intro t s F))
def Tf (j bias : Int) : Int := if 36 * (j + 1) - bias < 1 then 1 else if 36 * (j + 1) - bias > 26 then 26 else 36 * (j + 1) - bias
theorem Tf_rng (j bias : Int) : 1 ≤ Tf j bias ∧ Tf j bias ≤ 26 := by
  unfold Tf; split
  · omega
  · split <;> omega

theorem Tf_1 {j bias : Int} (h : 36 * (j + 1) - bias < 1) : Tf j bias = 1 := by unfold Tf; rw [if_pos h]
theorem Tf_2 {j bias : Int} (h : ¬ 36 * (j + 1) - bias < 1) (h' : 26 < 36 * (j + 1) - bias) : Tf j bias = 26 := by unfold Tf; rw [if_neg h, if_pos h']
theorem Tf_3 {j bias : Int} (h : ¬ 36 * (j + 1) - bias < 1) (h' : ¬ 26 < 36 * (j + 1) - bias) : Tf j bias = 36 * (j + 1) - bias := by unfold Tf; rw [if_neg h, if_neg h']

theorem T_con {w : World} {A : Around} {E : Value → Shared → Prop} {s : Shared} {b : Heap} {mg mb : Str → Option Value} {n : Nat} {a : Addr} {j bias : Int} {t u : Tok} (st : b.StaysIn s.heap) (G : Gl P n mg mb b) (R : Rm A 1) (fn : IsFn b a (defAt P 1)) :
    wpAny (model P w) A (call (.ref a) [.int j t, .int bias u]) (fun v s' => ∃ k, v = .int (Tf j bias) k ∧ Ex s b s' b) E s := by
  refine enter (binds := [("j", .int j t), ("bias", .int bias u)]) st fn G.nolimit R.room (fun _ _ _ => rfl) rfl rfl rfl rfl (by decide) ?_
  intro L cd s₁ F
  rw [binds2] at F
  refine genA (R.deep _) fun A R => ?_
  refine cps fun Q hQ => ?_
  refine wpAny_execs_cons ?_
  walk_at "xs"
  · exact hQ _ _ ⟨_, congrArg (Value.int · _) (Tf_1 ‹_›).symm, F.ex⟩
  · exact hQ _ _ ⟨_, congrArg (Value.int · _) (Tf_2 ‹_› ‹_›).symm, F.ex⟩
  · exact hQ _ _ ⟨_, congrArg (Value.int · _) (Tf_3 ‹_› ‹_›).symm, F.ex⟩
def adLoop (d k : Int) : Int × Int := if 455 < d then adLoop (d / 35) (k + 36) else (d, k)
termination_by d.toNat
decreasing_by omega
theorem adLoop_1 {d k : Int} (h : 455 < d) : adLoop d k = adLoop (d / 35) (k + 36) := by rw [adLoop]; rw [if_pos h]
theorem adLoop_2 {d k : Int} (h : ¬ 455 < d) : adLoop d k = (d, k) := by rw [adLoop]; rw [if_neg h]
def adStart (delta : Int) (first : Bool) (n : Int) : Int := (if first = true then delta / 700 else delta / 2) + (if first = true then delta / 700 else delta / 2) / n
def adF (delta : Int) (first : Bool) (n : Int) : Int :=
  (adLoop (adStart delta first n) 0).2 + 36 * (adLoop (adStart delta first n) 0).1 / ((adLoop (adStart delta first n) 0).1 + 38)

theorem ad_con {w : World} {A : Around} {E : Value → Shared → Prop} {s : Shared} {b : Heap} {mg mb : Str → Option Value} {n : Nat} {a : Addr} {delta num : Int} {first : Bool} {t u : Tok} (st : b.StaysIn s.heap) (G : Gl P n mg mb b) (R : Rm A 1) (fn : IsFn b a (defAt P 4))
    (h0 : 0 ≤ delta) (h1 : 0 < num) (h2 : num < 1000000) :
    wpAny (model P w) A (call (.ref a) [.int delta t, .bool first, .int num u]) (fun v s' => ∃ k, v = .int (adF delta first num) k ∧ Ex s b s' b) E s := by
  refine enter (binds := [("delta", .int delta t), ("first", .bool first), ("numchars", .int num u)]) st fn G.nolimit R.room (fun _ _ _ => rfl) rfl rfl rfl rfl (by decide) ?_
  intro L cd s₁ F
  rw [binds3] at F
  refine genA (R.deep _) fun A R => ?_
  refine cps fun Q hQ => ?_
  have hd0 : 0 ≤ (if first = true then delta / 700 else delta / 2) := by split <;> omega
  refine seq_cut (fun s' => ∃ m, (∃ t, m "delta" = some (.int (if first = true then delta / 700 else delta / 2) t)) ∧ m "numchars" = some (.int num u) ∧ Fm s b b L [] m s') ?_ ?_
  · walk_at "xs"
    · exact ⟨rfl, _, ⟨_, by rw [hc]; exact if_pos rfl⟩, by walk_at "look", F⟩
    · exact ⟨rfl, _, ⟨_, by rw [hc]; exact if_pos rfl⟩, by walk_at "look", F⟩
  rintro s ⟨m, ⟨t, hd⟩, hn, F⟩
  walk_at "xs"
  have hs : 0 ≤ adStart delta first num := by
    unfold adStart
    have := Int.ediv_nonneg hd0 (Int.le_of_lt h1)
    omega
  refine while_rule (fun n s' => ∃ d k m, 0 ≤ d ∧ d.toNat = n ∧ adLoop d k = adLoop (adStart delta first num) 0 ∧ (∃ t, m "delta" = some (.int d t)) ∧ (∃ t, m "divisions" = some (.int k t)) ∧ Fm _ b b L [] m s') ?_ _
    ⟨_, _, _, hs, rfl, rfl, ⟨_, look_there (by kernel_rfl) look_here⟩, ⟨_, by walk_at "look"⟩, F⟩
  clear F
  rintro n s ⟨d, k, m, p0, rfl, pe, ⟨t, e1⟩, ⟨u, e2⟩, F⟩ B hB
  walk_at "xs"
  · exact hB _ _ ⟨_, by omega, _, _, _, (by omega : 0 ≤ d / 35), rfl, (adLoop_1 ‹_›).symm.trans pe, ⟨_, by walk_at "look"⟩, ⟨_, by walk_at "look"⟩, F⟩
  · rw [adLoop_2 ‹_›] at pe
    walk_at "xs"
    exact hQ _ _ ⟨_, by unfold adF; rw [← pe], F.ex⟩
set_option hygiene false in
local macro_rules | `(tactic| walk_at "xk") => `(tactic| first
  | ((with_reducible change wpK _ _ (execs (Stmt.If _ _ _ _ :: _) _) _ _ _); refine consK (ifK ?_))
  | ((with_reducible change wpK _ _ (execs (Stmt.Return _ _ :: _) _) _ _ _); refine stepK ?_)
  | ((with_reducible change wpK _ _ (execs (Stmt.Assign _ _ _ :: _) _) _ _ _); refine stepK ?_)
  | ((with_reducible change wpK _ _ (execs (Stmt.AugAssign _ _ _ _ :: _) _) _ _ _); refine stepK ?_)
  | ((with_reducible change wpK _ _ (execs [] _) _ _ _); refine nilK ?_)
  | walk_at "x")
set_option hygiene false in
local macro_rules | `(tactic| walk_at "xks") => `(tactic| repeat' (walk_at "xk"))
set_option hygiene false in
local macro_rules | `(tactic| walk_at "T") => `(tactic| (refine call_def (by assumption) (by assumption) (G.fn 1 (by decide) rfl) rfl rfl rfl rfl (by decide) rfl rfl ?_; intro a fn; walk_at "xs"; refine ⟨F.le, wpAny_mono (T_con F.le G (by assumption) fn) (fun v s h => ?_) (fun _ _ x => x)⟩; obtain ⟨k, rfl, x⟩ := h; have F := F.call x; clear x))
def dig (d : Int) : UInt8 := digitsArr.getD d.toNat 0
def ggL (N bias j : Int) : List Int :=
  if N < Tf j bias then [N] else (Tf j bias + (N - Tf j bias) % (36 - Tf j bias)) :: ggL ((N - Tf j bias) / (36 - Tf j bias)) bias (j + 1)
termination_by N.toNat
decreasing_by
  have := Tf_rng j bias
  have h1 : (N - Tf j bias) / (36 - Tf j bias) ≤ N - 1 := by
    refine Int.le_trans (Int.ediv_le_self _ (by omega)) (by omega)
  omega
theorem gg_lt {N bias j : Int} (h : ¬ N < Tf j bias) : 0 ≤ (N - Tf j bias) / (36 - Tf j bias) ∧ (N - Tf j bias) / (36 - Tf j bias) ≤ N - 1 := by
  have := Tf_rng j bias
  exact ⟨Int.ediv_nonneg (by omega) (by omega), Int.le_trans (Int.ediv_le_self _ (by omega)) (by omega)⟩
theorem ggL_1 {N bias j : Int} (h : N < Tf j bias) : ggL N bias j = [N] := by rw [ggL, if_pos h]
theorem ggL_2 {N bias j : Int} (h : ¬ N < Tf j bias) : ggL N bias j = (Tf j bias + (N - Tf j bias) % (36 - Tf j bias)) :: ggL ((N - Tf j bias) / (36 - Tf j bias)) bias (j + 1) := by rw [ggL, if_neg h]
theorem ggL_len : ∀ (n : Nat) (N bias j : Int), N.toNat = n → (ggL N bias j).length ≤ n + 1 := by
  intro n
  induction n using Nat.strongRecOn with
  | ind n ih =>
    intro N bias j hn
    by_cases h : N < Tf j bias
    · rw [ggL_1 h]; simp
    · rw [ggL_2 h]
      have := gg_lt h
      have t := Tf_rng j bias
      have := ih ((N - Tf j bias) / (36 - Tf j bias)).toNat (by omega) _ bias (j + 1) rfl
      simp only [List.length_cons]
      omega
def ggB (N bias : Int) : List UInt8 := (ggL N bias 0).map dig
theorem dig_size : digitsArr.size = 36 := by decide
theorem dig_val {d : Int} (h0 : 0 ≤ d) (h1 : d < 36) : ((digitsArr.getD d.toNat 0).toNat : Int).toNat.toUInt8 = dig d := by
  rw [Int.toNat_natCast]
  unfold dig
  simp

theorem gg_con {w : World} {A : Around} {E : Value → Shared → Prop} {s : Shared} {b : Heap} {mg mb : Str → Option Value} {a : Addr} {N bias : Int} {t u : Tok} (st : b.StaysIn s.heap) (G : Gl P 30 mg mb b) (R : Rm A 2) (fn : IsFn b a (defAt P 3))
    (h0 : 0 ≤ N) (h1 : N < 10000000) :
    wpK (model P w) A (PySem.call (.ref a) [.int N t, .int bias u]) (fun v s' => ∃ x k, v = .bytes x k ∧ x.toList = ggB N bias ∧ Ex s b s' b) E s := by
  refine enterK (binds := [("N", .int N t), ("bias", .int bias u)]) st fn G.nolimit R.room (fun _ _ _ => rfl) rfl rfl rfl rfl (by decide) ?_
  intro L cd s₁ F
  rw [binds2] at F
  refine genK (R.deep _) fun A R => ?_
  refine cpsK fun Q hQ => ?_
  refine consK (assignK (callK_type0 (T := "bytearray") rfl ?_))
  walk_at "xs"
  refine ⟨rfl, ba_new F ?_⟩
  intro r s F
  walk_at "xks"
  refine consK ?_
  refine whileK (fun n s' => ∃ K j x m, 0 ≤ K ∧ K.toNat = n ∧ x.toList ++ (ggL K bias j).map dig = ggB N bias ∧ (∃ t, m "N" = some (.int K t)) ∧ (∃ t, m "j" = some (.int j t)) ∧ (∃ t, m "bias" = some (.int bias t)) ∧ m "result" = some (.ref r) ∧ Fm _ b b L [(r, baObj x)] m s') ?_ _
    ⟨N, 0, #[], _, h0, rfl, rfl, ⟨_, by walk_at "look"⟩, ⟨_, by walk_at "look"⟩, ⟨_, by walk_at "look"⟩, by walk_at "look", F⟩
  clear F
  obtain ⟨td, hdig⟩ := G.digits
  have hlen : (ggB N bias).length ≤ N.toNat + 1 := by unfold ggB; rw [List.length_map]; exact ggL_len _ _ _ _ rfl
  rintro n s ⟨K, j, x, m, p0, rfl, pe, ⟨t, e1⟩, ⟨u, e2⟩, ⟨v, e3⟩, e4, F⟩ B hB
  have hx : x.size + (ggL K bias j).length = (ggB N bias).length := by rw [← pe, List.length_append, List.length_map]; rfl
  have hT := Tf_rng j bias
  walk_at "xs"
  refine ⟨rfl, ?_⟩
  walk_at "xks"
  walk_at "T"
  walk_at "xks"
  · refine consK (exprK (methodK rfl rfl ?_))
    walk_at "xs"
    refine ba_getMethod F.hd rfl rfl ba_slot_append.lookup ba_type_append ⟨_, rfl, ?_⟩
    walk_at "xs"
    refine nm_glob F G rfl rfl rfl hdig (by decide) ?_
    have := dig_size
    walk_at "xs"
    have hb := UInt8.toNat_lt (digitsArr.getD K.toNat 0)
    refine ba_append F (Int.natCast_nonneg _) (by omega) (by rw [sizeLine_eq]; omega) fun s F => ?_
    rw [dig_val p0 (by omega)] at F
    walk_at "xks"
    walk_at "ct"
    rw [ggL_1 hc] at pe hx
    refine call_bytes_ba F.hd (by rw [sizeLine_eq, Array.size_push]; omega) fun t k => ?_
    refine hB _ _ (hQ _ _ ?_)
    refine ⟨_, _, rfl, ?_, F.toks.drop.ex⟩
    rw [Array.toList_push]; exact pe
  · refine consK (exprK (methodK rfl rfl ?_))
    walk_at "xs"
    refine ba_getMethod F.hd rfl rfl ba_slot_append.lookup ba_type_append ⟨_, rfl, ?_⟩
    walk_at "xs"
    refine nm_glob F G rfl rfl rfl hdig (by decide) ?_
    have := dig_size
    walk_at "xs"
    have h2 : 0 ≤ (K - Tf j bias) % (36 - Tf j bias) ∧ (K - Tf j bias) % (36 - Tf j bias) < 36 - Tf j bias := ⟨Int.emod_nonneg _ (by omega), Int.emod_lt_of_pos _ (by omega)⟩
    walk_at "xs"
    have hb := UInt8.toNat_lt (digitsArr.getD (Tf j bias + (K - Tf j bias) % (36 - Tf j bias)).toNat 0)
    rw [ggL_2 hc] at pe hx
    rw [List.length_cons] at hx
    have hg := gg_lt hc
    refine ba_append F (Int.natCast_nonneg _) (by omega) (by rw [sizeLine_eq]; omega) fun s F => ?_
    rw [dig_val (by omega) (by omega)] at F
    walk_at "xks"
    exact hB _ _ ⟨_, (by omega : ((K - Tf j bias) / (36 - Tf j bias)).toNat < K.toNat), _, j + 1, _, _, hg.1, rfl, by rw [Array.toList_push, List.append_assoc]; exact pe, ⟨_, by walk_at "look"⟩, ⟨_, by walk_at "look"⟩, ⟨_, by walk_at "look"⟩, by walk_at "look", F⟩
def genB (base : Int) : List Int → Int → Int → List UInt8
  | [], _, _ => []
  | d :: ds, p, bias => ggB d bias ++ genB base ds (p + 1) (adF d (decide (p = 0)) (base + p + 1))
/-- the bias at the turn i -/
def biasAt (base : Int) (ds : List Int) : Nat → Int
  | 0 => 72
  | i + 1 => adF (ds.getD i 0) (decide ((i : Int) = 0)) (base + i + 1)
theorem genB_at (base : Int) (ds : List Int) : ∀ i, i < ds.length → genB base (ds.drop i) i (biasAt base ds i) = ggB (ds.getD i 0) (biasAt base ds i) ++ genB base (ds.drop (i + 1)) ((i + 1 : Nat) : Int) (biasAt base ds (i + 1)) := by
  intro i h
  rw [List.drop_eq_getElem_cons h]
  show ggB ds[i] _ ++ genB base _ _ (adF ds[i] _ _) = _
  rw [show ds.getD i 0 = ds[i] from by simp [List.getD, h]]
  show _ = _ ++ genB base _ ((i + 1 : Nat) : Int) (adF (ds.getD i 0) _ _)
  rw [show ds.getD i 0 = ds[i] from by simp [List.getD, h]]
  rfl
theorem ggB_len {N bias : Int} : (ggB N bias).length ≤ N.toNat + 1 := by unfold ggB; rw [List.length_map]; exact ggL_len _ _ _ _ rfl
theorem genB_len (base : Int) (c : Nat) : ∀ (ds : List Int) (p bias : Int), (∀ d ∈ ds, d.toNat + 1 ≤ c) → (genB base ds p bias).length ≤ c * ds.length
  | [], _, _, _ => Nat.zero_le _
  | d :: ds, p, bias, h => by
    have h1 := ggB_len (N := d) (bias := bias)
    have h2 := h d (by simp)
    have h3 := genB_len base c ds (p + 1) (adF d (decide (p = 0)) (base + p + 1)) fun x hx => h x (by simp [hx])
    show (ggB d bias ++ _).length ≤ _
    rw [List.length_append, List.length_cons, Nat.mul_succ]
    omega

theorem gen_con {w : World} {A : Around} {E : Value → Shared → Prop} {s₀ : Shared} {b : Heap} {mg mb : Str → Option Value} {a l : Addr} {base : Int} {t : Tok} {vs : List Value} {ns : List Int} (st : b.StaysIn s₀.heap) (G : Gl P 30 mg mb b) (R : Rm A 3) (fn : IsFn b a (defAt P 5))
    (hb0 : 0 ≤ base) (hb1 : base < 1000) (hl : b.IsList l vs.toArray) (hi : IntsAre vs ns) (hn : ∀ x ∈ ns, 0 ≤ x ∧ x < 500000) (hlen : ns.length ≤ 32) :
    wpK (model P w) A (PySem.call (.ref a) [.int base t, .ref l]) (fun v s' => ∃ x k, v = .bytes x k ∧ x.toList = genB base ns 0 72 ∧ Ex s₀ b s' b) E s₀ := by
  refine enterK (binds := [("baselen", .int base t), ("deltas", .ref l)]) st fn G.nolimit R.room (fun _ _ _ => rfl) rfl rfl rfl rfl (by decide) ?_
  intro L cd s₁ F
  rw [binds2] at F
  refine genK (R.deep _) fun A R => ?_
  refine cpsK fun Q hQ => ?_
  refine consK (assignK (callK_type0 (T := "bytearray") rfl ?_))
  walk_at "xs"
  refine ⟨rfl, ba_new F ?_⟩
  intro r s F
  walk_at "xks"
  have hvl : vs.length = ns.length := hi.length
  have hbig : (genB base ns 0 72).length ≤ 16000000 := by
    have := genB_len base 500000 ns 0 72 fun x hx => by have := hn x hx; omega
    omega
  refine consK (for_enumK (s₀ := s₀) (b₀ := b) (l := l) (vs := vs) R.handled hl rfl rfl rfl rfl
    (fun i own m => ∃ x, own = [(r, baObj x)] ∧ x.toList ++ genB base (ns.drop i) i (biasAt base ns i) = genB base ns 0 72 ∧ (∃ t, m "bias" = some (.int (biasAt base ns i) t)) ∧ (∃ t, m "baselen" = some (.int base t)) ∧ m "result" = some (.ref r)) ?_ ?_ ?_ (fun _ => rfl))
  · walk_at "ct"
    have hl' : s.heap.IsList l vs.toArray := hl.at fun o e => F.le _ _ e
    refine call_enumerate_list hl' fun h' he hit hz hk => ?_
    obtain ⟨oi, hoi, _⟩ := id hit
    have F1 := F.newOwn (s' := { s with heap := h' }) (a := s.heap.objs.size) (Keeps.mk' hk ⟨rfl, rfl, rfl⟩) none_size hoi
    have ne : s.heap.get? (s.heap.objs.size + 1) = none := by
      cases e : s.heap.get? (s.heap.objs.size + 1) with
      | none => rfl
      | some o => exact absurd (Heap.lt_size e) (Nat.not_lt.mpr (Nat.le_succ _))
    have F2 := F.newOwn (s' := { s with heap := h' }) (a := s.heap.objs.size + 1) (Keeps.mk' hk ⟨rfl, rfl, rfl⟩) ne he
    have F3 : Fm s₀ b b L [(s.heap.objs.size + 1, enumObj s.heap.objs.size 0 .none .none), (s.heap.objs.size, oi), (r, baObj #[])] _ { s with heap := h' } :=
      ⟨F1.ns, F1.ex, F1.outL, fun p hp => by
        rcases List.mem_cons.mp hp with rfl | hp
        · exact F2.has (s.heap.objs.size + 1, enumObj s.heap.objs.size 0 .none .none) List.mem_cons_self
        · exact F1.has p hp, List.pairwise_cons.mpr ⟨fun p hp => by
          rcases List.mem_cons.mp hp with rfl | hp
          · exact Nat.succ_ne_self _
          · exact (List.pairwise_cons.mp F2.dis).1 p hp, F1.dis⟩⟩
    refine ⟨[(r, baObj #[])], _, _, _, oi, rfl, F3.perm ?_, hit, #[], rfl, rfl, ⟨_, look_here⟩, ⟨_, by walk_at "look"⟩, by walk_at "look"⟩
    exact List.perm_append_comm (l₁ := [(s.heap.objs.size + 1, enumObj s.heap.objs.size 0 .none .none), (s.heap.objs.size, oi)]) (l₂ := [(r, baObj #[])])
  · clear F
    rintro i v own m ios t s hv ⟨x, rfl, hx, ⟨tb, e1⟩, ⟨tl, e2⟩, e3⟩ F
    obtain ⟨d, td, rfl, hd⟩ := IntsAre.at hi i v hv
    obtain ⟨d0, d1⟩ := hn d (List.mem_of_getElem? hd)
    have hin : i < ns.length := (List.getElem?_eq_some_iff.mp hd).1
    have hgd : ns.getD i 0 = d := by simp [List.getD, hd]
    have hat := genB_at base ns i hin
    rw [hgd] at hat
    have F : Fm s₀ b b L ((r, baObj x) :: ios) (enumMap "points" "delta" i t (.int d td) m) s := F
    unfold enumMap at F
    refine cpsK fun B hB => ?_
    refine consK (assignK (callK (by assumption) (by assumption) (G.fn 3 (by decide) rfl) rfl rfl rfl rfl (by decide) rfl rfl rfl ?_))
    intro a fn
    walk_at "xs"
    refine ⟨F.le, wpK.mono (gg_con F.le G R fn d0 (by omega)) (fun v s h => ?_) fun _ _ x => x⟩
    obtain ⟨y, k, rfl, hy, xx⟩ := h
    have F := F.call xx
    clear xx
    walk_at "xs"
    refine consK (exprK (methodK rfl rfl ?_))
    walk_at "xs"
    refine ba_getMethod F.hd rfl rfl ba_slot_extend.lookup ba_type_extend ⟨_, rfl, ?_⟩
    walk_at "xs"
    have hxl : x.toList.length + (genB base (ns.drop i) i (biasAt base ns i)).length = (genB base ns 0 72).length := by rw [← hx, List.length_append]
    have hyl : (genB base (ns.drop i) i (biasAt base ns i)).length = y.toList.length + (genB base (ns.drop (i + 1)) ((i + 1 : Nat) : Int) (biasAt base ns (i + 1))).length := by rw [hat, List.length_append, ← hy]
    simp only [Array.length_toList] at hxl hyl
    refine ba_extend F (by rw [sizeLine_eq]; omega) fun s F => ?_
    walk_at "xks"
    refine call_def (by assumption) (by assumption) (G.fn 4 (by decide) rfl) rfl rfl rfl rfl (by decide) rfl rfl ?_
    intro a fn
    walk_at "xs"
    refine ⟨F.le, wpAny_mono (ad_con F.le G (R.le (by decide)) fn d0 (by omega) (by omega)) (fun v s h => ?_) (fun _ _ x => x)⟩
    obtain ⟨k, rfl, xx⟩ := h
    have F := F.call xx
    clear xx
    walk_at "xks"
    have hba : biasAt base ns (i + 1) = adF d (decide ((i : Int) = 0)) (base + i + 1) := by show adF (ns.getD i 0) _ _ = _; rw [hgd]
    refine hB _ _ ?_
    refine ⟨_, _, ⟨x ++ y, rfl, ?_, ⟨_, by rw [hba]; walk_at "look"⟩, ⟨_, by walk_at "look"⟩, by walk_at "look"⟩, F⟩
    rw [Array.toList_append, List.append_assoc, hy, ← hat]; exact hx
  · rintro own m s ⟨x, rfl, hx, _, _, e3⟩ F
    walk_at "xks"
    walk_at "ct"
    rw [hvl, List.drop_length] at hx
    have hx : x.toList = genB base ns 0 72 := by simpa [genB] using hx
    have hz : x.size = (genB base ns 0 72).length := by rw [← hx]; rfl
    refine call_bytes_ba F.hd (by rw [sizeLine_eq]; omega) fun t k => ?_
    exact hQ _ _ ⟨_, _, rfl, hx, F.toks.ex⟩
def upb (c : UInt8) : UInt8 := if 97 ≤ c ∧ c ≤ 122 then c - 32 else c
theorem up_dig : ∀ d : Fin 36, (65 ≤ (upb (dig (d.val : Int))).toNat ∧ (upb (dig (d.val : Int))).toNat ≤ 90 ∧ ((upb (dig (d.val : Int))).toNat : Int) - 65 = d.val) ∨ (¬ (65 ≤ (upb (dig (d.val : Int))).toNat) ∧ 48 ≤ (upb (dig (d.val : Int))).toNat ∧ (upb (dig (d.val : Int))).toNat ≤ 57 ∧ ((upb (dig (d.val : Int))).toNat : Int) - 22 = d.val) := by decide
theorem up_dig' {d : Int} (h0 : 0 ≤ d) (h1 : d < 36) : (65 ≤ ((upb (dig d)).toNat : Int) ∧ ((upb (dig d)).toNat : Int) ≤ 90 ∧ ((upb (dig d)).toNat : Int) - 65 = d) ∨ (¬ (65 ≤ ((upb (dig d)).toNat : Int)) ∧ 48 ≤ ((upb (dig d)).toNat : Int) ∧ ((upb (dig d)).toNat : Int) ≤ 57 ∧ ((upb (dig d)).toNat : Int) - 22 = d) := by
  have := up_dig ⟨d.toNat, by omega⟩
  have e : ((d.toNat : Nat) : Int) = d := by omega
  simp only [e] at this
  omega

theorem dec_step {x : Array UInt8} {K bias j p : Int} {rest : List UInt8} (k0 : 0 ≤ K) (p0 : 0 ≤ p) (hd : x.toList.drop p.toNat = ((ggL K bias j).map dig).map upb ++ rest) :
    ∃ d : Int, 0 ≤ d ∧ d < 36 ∧ p < x.size ∧ x.getD p.toNat 0 = upb (dig d) ∧ ((K < Tf j bias ∧ d = K ∧ (ggL K bias j).length = 1) ∨
      (¬ K < Tf j bias ∧ d = Tf j bias + (K - Tf j bias) % (36 - Tf j bias) ∧ Tf j bias ≤ d ∧ x.toList.drop (p + 1).toNat = ((ggL ((K - Tf j bias) / (36 - Tf j bias)) bias (j + 1)).map dig).map upb ++ rest ∧
        (ggL K bias j).length = (ggL ((K - Tf j bias) / (36 - Tf j bias)) bias (j + 1)).length + 1)) := by
  have hT := Tf_rng j bias
  have head : ∀ (c : UInt8) (l : List UInt8), x.toList.drop p.toNat = c :: l → p < x.size ∧ x.getD p.toNat 0 = c ∧ x.toList.drop (p + 1).toNat = l := by
    intro c l h
    have h1 : x.toList[p.toNat]? = some c := by rw [← List.head?_drop, h]; rfl
    have h2 : p.toNat < x.toList.length := (List.getElem?_eq_some_iff.mp h1).1
    rw [Array.length_toList] at h2
    refine ⟨by omega, ?_, ?_⟩
    · have : x[p.toNat]? = some c := by rw [← Array.getElem?_toList]; exact h1
      simp [Array.getD_eq_getD_getElem?, this]
    · rw [show (p + 1).toNat = p.toNat + 1 from by omega, ← List.drop_drop, h]; rfl
  by_cases h : K < Tf j bias
  · rw [ggL_1 h] at hd ⊢
    obtain ⟨h1, h2, _⟩ := head _ _ hd
    exact ⟨K, k0, by omega, h1, h2, .inl ⟨h, rfl, rfl⟩⟩
  · have h2 : 0 ≤ (K - Tf j bias) % (36 - Tf j bias) ∧ (K - Tf j bias) % (36 - Tf j bias) < 36 - Tf j bias := ⟨Int.emod_nonneg _ (by omega), Int.emod_lt_of_pos _ (by omega)⟩
    rw [ggL_2 h] at hd ⊢
    obtain ⟨q1, q2, q3⟩ := head _ _ hd
    exact ⟨_, by omega, by omega, q1, q2, .inr ⟨h, rfl, by omega, q3, rfl⟩⟩
theorem dec_arith {r q K T N : Int} (hr : r + q * K = N) : r + (T + (K - T) % (36 - T)) * q + q * (36 - T) * ((K - T) / (36 - T)) = N := by
  have h := Int.emod_add_mul_ediv (K - T) (36 - T)
  have e : q * (36 - T) * ((K - T) / (36 - T)) = q * ((36 - T) * ((K - T) / (36 - T))) := Int.mul_assoc ..
  rw [e, Int.mul_comm _ q, Int.add_assoc, ← Int.mul_add, Int.add_assoc, h]
  rw [show T + (K - T) = K from by omega]
  exact hr

theorem dec_con {w : World} {A : Around} {E : Value → Shared → Prop} {s₀ : Shared} {b : Heap} {mg mb : Str → Option Value} {a : Addr} {x : Array UInt8} {pos N bias : Int} {tx t u : Tok} {er : Value} {rest : List UInt8} (st : b.StaysIn s₀.heap) (G : Gl P 30 mg mb b) (R : Rm A 2) (fn : IsFn b a (defAt P 6))
    (h0 : 0 ≤ N) (h1 : N < 10000000) (p0 : 0 ≤ pos) (hx : x.toList.drop pos.toNat = (ggB N bias).map upb ++ rest) (hz : x.size ≤ 100000000) :
    wpAny (model P w) A (call (.ref a) [.bytes x tx, .int pos t, .int bias u, er]) (fun v s' => ∃ r b', v = .ref r ∧ TupI b' r [pos + (ggB N bias).length, N] ∧ Ex s₀ b s' b') E s₀ := by
  refine enter (binds := [("extended", .bytes x tx), ("extpos", .int pos t), ("bias", .int bias u), ("errors", er)]) st fn G.nolimit R.room (fun _ _ _ => rfl) rfl rfl rfl rfl (by decide) ?_
  intro L cd s₁ F
  rw [binds4] at F
  refine genA (R.deep _) fun A R => ?_
  refine cps fun Q hQ => ?_
  refine wpAny_execs_cons ?_
  walk_at "xs"
  refine while_rule (fun n s' => ∃ K j p r q m, 0 ≤ K ∧ K ≤ N ∧ K.toNat = n ∧ 0 ≤ p ∧ r + q * K = N ∧ p + (ggL K bias j).length = pos + (ggB N bias).length ∧ x.toList.drop p.toNat = ((ggL K bias j).map dig).map upb ++ rest ∧ (∃ t, m "result" = some (.int r t)) ∧ (∃ t, m "w" = some (.int q t)) ∧ (∃ t, m "j" = some (.int j t)) ∧ (∃ t, m "bias" = some (.int bias t)) ∧ (∃ t, m "extpos" = some (.int p t)) ∧ (∃ t, m "extended" = some (.bytes x t)) ∧ Fm s₀ b b L [] m s') ?_ _
    ⟨N, 0, pos, 0, 1, _, h0, Int.le_refl _, rfl, p0, by omega, by unfold ggB; rw [List.length_map], hx, ⟨_, by walk_at "look"⟩, ⟨_, by walk_at "look"⟩, ⟨_, by walk_at "look"⟩, ⟨_, by walk_at "look"⟩, ⟨_, by walk_at "look"⟩, ⟨_, by walk_at "look"⟩, F⟩
  clear F
  rintro n s ⟨K, j, p, r, q, m, k0, k1, rfl, p0, hr, hp, hd, ⟨t1, e1⟩, ⟨t2, e2⟩, ⟨t3, e3⟩, ⟨t4, e4⟩, ⟨t5, e5⟩, ⟨t6, e6⟩, F⟩ B hB
  have hT := Tf_rng j bias
  obtain ⟨d, d0, d1, hpx, hc, hcase⟩ := dec_step k0 p0 hd
  have hdv := up_dig' d0 d1
  rw [← hc] at hdv
  clear hd hc
  have hv1 : ∀ z, K < Tf j bias → z = d → r + z * q = N := by
    rintro z h rfl
    rcases hcase with ⟨_, rfl, _⟩ | ⟨q, _⟩
    · rw [Int.mul_comm]; exact hr
    · exact absurd h q
  have hv2 : ∀ z, ¬ K < Tf j bias → z = d → r + z * q + q * (36 - Tf j bias) * ((K - Tf j bias) / (36 - Tf j bias)) = N := by
    rintro z h rfl
    rcases hcase with ⟨q, _⟩ | ⟨_, rfl, _⟩
    · exact absurd q h
    · exact dec_arith hr
  walk_at "xs"
  all_goals (try (exfalso; omega))
  all_goals (try (exact absurd ‹(1 != 0) = false› (by decide)))
  all_goals
    walk_at "T"
    walk_at "xs"
    · have hK : K < Tf j bias := by
        rcases hcase with ⟨q, _⟩ | ⟨_, _, q, _⟩
        · exact q
        · exfalso; omega
      have hl1 : (ggL K bias j).length = 1 := by rw [ggL_1 hK]; rfl
      exact new_tuple F (small_len (by simp)) fun a b' s hb F hT => hB _ _ (hQ _ _ ⟨_, _, rfl, ⟨_, hT, ints2 (by omega) (hv1 _ hK (by omega))⟩, F.ex⟩)
    · rcases hcase with ⟨q1, rfl, q3⟩ | ⟨q1, q2, q3, q4, q5⟩
      · exfalso; omega
      · have hg := gg_lt q1
        refine hB _ _ ?_
        refine ⟨_, (by omega : ((K - Tf j bias) / (36 - Tf j bias)).toNat < K.toNat), _, j + 1, p + 1, _, q * (36 - Tf j bias), _, hg.1, by omega, rfl, by omega, ?_, by omega, q4, ⟨_, by walk_at "look"⟩, ⟨_, by walk_at "look"⟩, ⟨_, by walk_at "look"⟩, ⟨_, by walk_at "look"⟩, ⟨_, by walk_at "look"⟩, ⟨_, by walk_at "look"⟩, F⟩
        exact hv2 _ q1 (by omega)
/-- how the decoder lays the signs in -/
def insL : List Nat → Int → Int → List Int → List Nat
  | l, _, _, [] => l
  | l, c, p, d :: ds => insL (l.take ((p + (d + 1)) % (l.length + 1)).toNat ++ [(c + (p + (d + 1)) / (l.length + 1)).toNat] ++ l.drop ((p + (d + 1)) % (l.length + 1)).toNat)
      (c + (p + (d + 1)) / (l.length + 1)) ((p + (d + 1)) % (l.length + 1)) ds
def insOk : Nat → Int → Int → List Int → Prop
  | _, _, _, [] => True
  | n, c, p, d :: ds => c + (p + (d + 1)) / (n + 1) ≤ 1114111 ∧ insOk (n + 1) (c + (p + (d + 1)) / (n + 1)) ((p + (d + 1)) % (n + 1)) ds
theorem ggB_pos {N bias : Int} : 1 ≤ (ggB N bias).length := by
  unfold ggB
  rw [List.length_map]
  by_cases h : N < Tf 0 bias
  · rw [ggL_1 h]; simp
  · rw [ggL_2 h]; simp

theorem ins_con {w : World} {A : Around} {E : Value → Shared → Prop} {s₀ : Shared} {b : Heap} {mg mb : Str → Option Value} {a : Addr} {x : Array UInt8} {l : List Nat} {ns : List Int} {tx t : Tok} {er : Value} (st : b.StaysIn s₀.heap) (G : Gl P 30 mg mb b) (R : Rm A 3) (fn : IsFn b a (defAt P 7))
    (hn : ∀ d ∈ ns, 0 ≤ d ∧ d < 500000) (hlen : ns.length ≤ 32) (hl : l.length ≤ 32) (hx : x.toList = (genB l.length ns 0 72).map upb) (hok : insOk l.length 128 (-1) ns) :
    wpAny (model P w) A (call (.ref a) [.str (S l) t, .bytes x tx, er]) (fun v s' => ∃ k b', v = .str (S (insL l 128 (-1) ns)) k ∧ Ex s₀ b s' b') E s₀ := by
  have hbig : (genB l.length ns 0 72).length ≤ 16000000 := by
    have := genB_len l.length 500000 ns 0 72 fun x hx => by have := hn x hx; omega
    omega
  have hz : x.size ≤ 16000000 := by rw [← Array.length_toList, hx, List.length_map]; exact hbig
  refine enter (binds := [("base", .str (S l) t), ("extended", .bytes x tx), ("errors", er)]) st fn G.nolimit R.room (fun _ _ _ => rfl) rfl rfl rfl rfl (by decide) ?_
  intro L cd s₁ F
  rw [binds3] at F
  refine genA (R.deep _) fun A R => ?_
  refine cps fun Q hQ => ?_
  refine wpAny_execs_cons ?_
  walk_at "xs"
  refine while_rule (fun n s' => ∃ i : Nat, ∃ k c p ep m b', i ≤ ns.length ∧ n = ns.length - i ∧ b.StaysIn b' ∧ k.length = l.length + i ∧ 0 ≤ c ∧ -1 ≤ p ∧ p ≤ k.length ∧ 0 ≤ ep ∧ (ep = 0 ↔ i = 0) ∧ insL k c p (ns.drop i) = insL l 128 (-1) ns ∧ insOk k.length c p (ns.drop i) ∧
      x.toList.drop ep.toNat = (genB l.length (ns.drop i) i (biasAt l.length ns i)).map upb ∧ (∃ t, m "base" = some (.str (S k) t)) ∧ (∃ t, m "char" = some (.int c t)) ∧ (∃ t, m "pos" = some (.int p t)) ∧ (∃ t, m "bias" = some (.int (biasAt l.length ns i) t)) ∧ (∃ t, m "extpos" = some (.int ep t)) ∧ (∃ t, m "extended" = some (.bytes x t)) ∧ m "errors" = some er ∧ Fm s₀ b b' L [] m s') ?_ ns.length
    ⟨0, l, 128, -1, 0, _, b, Nat.zero_le _, rfl, StaysIn.refl _, rfl, by decide, by decide, by omega, by decide, by simp, rfl, hok, by simpa [biasAt] using hx, ⟨_, by walk_at "look"⟩, ⟨_, by walk_at "look"⟩, ⟨_, by walk_at "look"⟩, ⟨_, look_there (by kernel_rfl) look_here⟩, ⟨_, by walk_at "look"⟩, ⟨_, by walk_at "look"⟩, by walk_at "look", F⟩
  clear F
  rintro n s ⟨i, k, c, p, ep, m, b', hi, rfl, hb, hk, c0, p0, p1, ep0, epi, hins, hok, hd, ⟨t1, e1⟩, ⟨t2, e2⟩, ⟨t3, e3⟩, ⟨t4, e4⟩, ⟨t5, e5⟩, ⟨t6, e6⟩, e7, F⟩ B hB
  have G := G.keeps hb
  walk_at "xs"
  walk_at "len"
  walk_at "xs"
  · have hin : i < ns.length := by
      rcases Nat.lt_or_ge i ns.length with h | h
      · exact h
      · exfalso
        rw [List.drop_eq_nil_of_le h] at hd
        have : x.toList.length ≤ ep.toNat := List.drop_eq_nil_iff.mp hd
        rw [Array.length_toList] at this
        omega
    have hdr : ns.drop i = ns.getD i 0 :: ns.drop (i + 1) := by rw [List.drop_eq_getElem_cons hin]; simp [List.getD, hin]
    obtain ⟨d0, d1⟩ := hn (ns.getD i 0) (by simp [List.getD, hin])
    rw [genB_at _ _ _ hin, List.map_append] at hd
    rw [hdr] at hins hok
    have hba : biasAt l.length ns (i + 1) = adF (ns.getD i 0) (decide ((i : Int) = 0)) (l.length + i + 1) := rfl
    generalize ns.getD i 0 = d at hdr d0 d1 hd hins hok hba
    generalize biasAt l.length ns i = bias at hd e4
    refine Assign_Tuple ?_ (by rfl) (by rfl)
    refine call_def (by assumption) (by assumption) (G.fn 6 (by decide) rfl) rfl rfl rfl rfl (by decide) rfl rfl ?_
    intro a fn
    walk_at "xs"
    refine ⟨F.le, wpAny_mono (dec_con F.le G R fn d0 (by omega) ep0 hd (by omega)) (fun v s h => ?_) (fun _ _ x => x)⟩
    obtain ⟨r, b'', rfl, hT, xx⟩ := h
    have F := F.call xx
    have G := G.keeps xx.up
    have hb := StaysIn.trans hb xx.up
    clear xx
    obtain ⟨ta, tb, hT⟩ := tup2 hT
    refine unpack2 F R.handled rfl rfl (by kernel_rfl) (by kernel_rfl) hT ?_
    intro s F
    walk_at "xs"
    walk_at "len"
    walk_at "xs"
    · exact absurd hok.1 (by omega)
    walk_at "len"
    walk_at "xs"
    have q0 : 0 ≤ (p + (d + 1)) % ((k.length : Int) + 1) := Int.emod_nonneg _ (by omega)
    have q1 : (p + (d + 1)) % ((k.length : Int) + 1) < (k.length : Int) + 1 := Int.emod_lt_of_pos _ (by omega)
    have q2 : 0 ≤ (p + (d + 1)) / ((k.length : Int) + 1) := Int.ediv_nonneg (by omega) (by omega)
    have q3 := hok.1
    walk_at "sub_to"
    walk_at "xs"
    walk_at "chr"
    walk_at "xs"
    walk_at "sub_from"
    walk_at "xs"
    refine call_def (by assumption) (by assumption) (G.fn 4 (by decide) rfl) rfl rfl rfl rfl (by decide) rfl rfl ?_
    intro a fn
    walk_at "xs"
    walk_at "len"
    walk_at "xs"
    have hkl : ∀ z : Nat, (k.take ((p + (d + 1)) % ((k.length : Int) + 1)).toNat ++ [z] ++ k.drop ((p + (d + 1)) % ((k.length : Int) + 1)).toNat).length = k.length + 1 := fun z => by
      simp only [List.length_append, List.length_take, List.length_drop, List.length_cons, List.length_nil]; omega
    have hkz := hkl (c + (p + (d + 1)) / ((k.length : Int) + 1)).toNat
    refine ⟨F.le, wpAny_mono (ad_con F.le G (R.le (by decide)) fn d0 (by omega) (by omega)) (fun v s h => ?_) (fun _ _ x => x)⟩
    obtain ⟨kt, rfl, xx⟩ := h
    have F := F.call xx
    clear xx
    walk_at "xs"
    have hgl := ggB_pos (N := d) (bias := bias)
    have hbe : adF d (decide (ep = 0)) ((k.take ((p + (d + 1)) % ((k.length : Int) + 1)).toNat ++ [(c + (p + (d + 1)) / ((k.length : Int) + 1)).toNat] ++ k.drop ((p + (d + 1)) % ((k.length : Int) + 1)).toNat).length : Nat) = biasAt l.length ns (i + 1) := by
      rw [hba, hkz, hk]
      congr 1
      · have : (ep = 0) ↔ ((i : Int) = 0) := by rw [epi]; omega
        exact decide_eq_decide.mpr this
    refine hB _ _ ?_
    refine ⟨_, (by omega : ns.length - (i + 1) < ns.length - i), i + 1, _, c + (p + (d + 1)) / ((k.length : Int) + 1), (p + (d + 1)) % ((k.length : Int) + 1), ep + (ggB d bias).length, _, b'', hin, rfl, hb, hkz.trans (by omega), by omega, by omega, by omega, by omega, by omega, hins, ?_, ?_, ⟨_, by walk_at "look"⟩, ⟨_, by walk_at "look"⟩, ⟨_, by walk_at "look"⟩, ⟨_, by rw [← hbe]; walk_at "look"⟩, ⟨_, by walk_at "look"⟩, ⟨_, by walk_at "look"⟩, by walk_at "look", F⟩
    · rw [hkz]; exact hok.2
    · rw [show (ep + ((ggB d bias).length : Int)).toNat = ep.toNat + ((ggB d bias).map upb).length from by rw [List.length_map]; omega, ← List.drop_drop, hd, List.drop_left]
  · refine hQ _ _ ?_
    exact ⟨_, b', by
      have : ¬ i < ns.length := by
        intro h
        rw [genB_at _ _ _ h, List.map_append] at hd
        have h1 := congrArg List.length hd
        have h2 := ggB_pos (N := ns.getD i 0) (bias := biasAt l.length ns i)
        simp only [List.length_drop, List.length_append, List.length_map, Array.length_toList] at h1
        omega
      rw [List.drop_eq_nil_of_le (by omega)] at hins
      rw [← hins]; rfl, F.ex⟩
section
theorem bf_slot_rfind : Slot "bytes" "rfind" "bytes.rfind" :=
  .of (owner := "bytes") (n := "rfind") (by rw [typeLookup_type, builtinLookup_eq_fast]; kernel_rfl) (by decide +kernel) (by decide +kernel) (by decide +kernel)
    (by first | exact .inl (by decide +kernel) | exact .inr (by decide +kernel)) (by rw [isSubtype_type]; kernel_rfl)
theorem bf_slot_upper : Slot "bytes" "upper" "bytes.upper" :=
  .of (owner := "bytes") (n := "upper") (by rw [typeLookup_type, builtinLookup_eq_fast]; kernel_rfl) (by decide +kernel) (by decide +kernel) (by decide +kernel)
    (by first | exact .inl (by decide +kernel) | exact .inr (by decide +kernel)) (by rw [isSubtype_type]; kernel_rfl)
theorem bf_args_rfind (a c : Value) : argsOk "bytes.rfind" ⟨[a, c], []⟩ := by
  unfold argsOk; rw [signature?_of (id := "bytes.rfind") (n := ['d', 'n', 'i', 'f', 'r']) (o := ['s', 'e', 't', 'y', 'b']) (by kernel_rfl) PySem.W.FB.owner_bytes]; kernel_rfl
theorem bf_args_upper (a : Value) : argsOk "bytes.upper" ⟨[a], []⟩ := by
  unfold argsOk; rw [signature?_of (id := "bytes.upper") (n := ['r', 'e', 'p', 'p', 'u']) (o := ['s', 'e', 't', 'y', 'b']) (by kernel_rfl) PySem.W.FB.owner_bytes]; kernel_rfl
theorem bf_entry_rfind : entryFor table "bytes.rfind" = some Builtin.«bytes.rfind» := by first | exact entryFor_of_fast (by kernel_rfl) | exact entryFor_of_tree (by kernel_rfl)
theorem bf_entry_upper : entryFor table "bytes.upper" = some Builtin.«bytes.upper» := by first | exact entryFor_of_fast (by kernel_rfl) | exact entryFor_of_tree (by kernel_rfl)
theorem bf_type_rfind : typeOf (.builtin "bytes.rfind") = pure (.type "method_descriptor") := by show builtinType _ = _; rw [builtinType_eq_fast]; kernel_rfl
theorem bf_type_upper : typeOf (.builtin "bytes.upper") = pure (.type "method_descriptor") := by show builtinType _ = _; rw [builtinType_eq_fast]; kernel_rfl

/-- where the last hyphen is -/
def rfv (x : Array UInt8) : Int := match (if x.size < 1 then none else Builtin.Bytes.rfind? x #[45] 0 x.size) with | some i => (i : Int) | none => -1

variable {prog : Program} {w : World} {A : Around} {E : Value → Shared → Prop} {s : Shared} {env : Env} {s₀ : Shared} {b₀ b b' : Heap} {L : Addr} {own : List (Addr × Obj)} {m : Str → Option Value}
theorem bf_rfind {x : Array UInt8} {t u : Tok} {Q : Value → Shared → Prop} (F : Fm s₀ b₀ b L own m s) (h : ∀ t s', Fm s₀ b₀ b L own m s' → Q (.int (rfv x) t) s') : wpAny (model prog w) A (call (.builtin "bytes.rfind") [.bytes x t, .bytes #[45] u]) Q E s := by
  refine wpAny_call_entry bf_slot_rfind (PySem.W.typeIs_bytes s x t) bf_entry_rfind ?_ (bf_args_rfind _ _)
  unfold Builtin.«bytes.rfind» Builtin.Bytes.searchM
  have hs : ∀ w', (w' = if x.size < 1 then none else some (0, x.size)) → wpAny (model prog w) A.in1 (Builtin.Bytes.searchArgs .bytes "rfind" ⟨[.bytes x t, .bytes #[45] u], []⟩) (fun r s' => r = (x, #[45], w') ∧ s' = s) E s := by
    intro w' hw
    unfold Builtin.Bytes.searchArgs
    refine wpAny_bind (m := selfAndSome _ _ _ _ _) (wpAny_pure ?_)
    refine wpAny_bind (m := Builtin.Bytes.bound? _) (wpAny_pure ?_)
    refine wpAny_bind (m := Builtin.Bytes.bound? _) (wpAny_pure ?_)
    refine wpAny_bind (m := Builtin.Bytes.buffer? _ _ _) (wpAny_of_eq PySem.W.KBy.buffer_eq ?_)
    refine wpAny_bind (wpAny_pure ?_)
    refine wpAny_bind (m := Builtin.Bytes.payload _) (wpAny_of_eq (a := x) rfl ?_)
    refine wpAny_pure ⟨?_, rfl⟩
    rw [hw]
    congr 2
    by_cases hx : x.size < 1
    · rw [if_pos hx]
      show (if ((min (x.size : Int) (if (x.size : Int) < 0 then max 0 ((x.size : Int) + x.size) else x.size)) - 0 : Int) < ((1 : Nat) : Int) then _ else _) = _
      rw [if_pos (by split <;> (first | lia | omega))]
    · rw [if_neg hx]
      show (if ((min (x.size : Int) (if (x.size : Int) < 0 then max 0 ((x.size : Int) + x.size) else x.size)) - 0 : Int) < ((1 : Nat) : Int) then _ else some (Int.toNat 0, Int.toNat (min (x.size : Int) (if (x.size : Int) < 0 then max 0 ((x.size : Int) + x.size) else x.size)))) = _
      rw [if_neg (by split <;> (first | lia | omega))]
      congr 2
      split <;> (first | lia | omega)
  refine wpAny_bind (wpAny_mono (hs _ rfl) (fun r s' hr => ?_) fun _ _ x => x)
  obtain ⟨rfl, rfl⟩ := hr
  by_cases hx : x.size < 1
  · have e : rfv x = -1 := by unfold rfv; rw [if_pos hx]
    rw [if_pos hx]
    refine wpAny_bind (wpAny_rule ?_)
    exact wpAny_bind (wpAny_mkInt (wpAny_pure ⟨_, rfl, (show rfv x = -1 from e) ▸ h _ _ F.toks⟩))
  · have e : rfv x = match Builtin.Bytes.rfind? x #[45] 0 x.size with | some i => (i : Int) | none => -1 := by unfold rfv; rw [if_neg hx]
    rw [if_neg hx]
    show wpAny _ _ (match Builtin.Bytes.rfind? x #[45] 0 x.size with | some i => _ | none => _) _ _ _
    cases hr : Builtin.Bytes.rfind? x #[45] 0 x.size with
    | some i => rw [hr] at e; exact wpAny_bind (wpAny_mkInt (wpAny_pure ⟨_, rfl, (show rfv x = (i : Int) from e) ▸ h _ _ F.toks⟩))
    | none => rw [hr] at e; exact wpAny_bind (wpAny_rule (wpAny_bind (wpAny_mkInt (wpAny_pure ⟨_, rfl, (show rfv x = -1 from e) ▸ h _ _ F.toks⟩))))
theorem bf_upper {x : Array UInt8} {t : Tok} {Q : Value → Shared → Prop} (F : Fm s₀ b₀ b L own m s) (hz : x.size ≤ sizeLine) (h : ∀ t s', Fm s₀ b₀ b L own m s' → Q (.bytes (x.toList.map Builtin.Bytes.toUpper).toArray t) s') : wpAny (model prog w) A (call (.builtin "bytes.upper") [.bytes x t]) Q E s := by
  refine wpAny_call_entry bf_slot_upper (PySem.W.typeIs_bytes s x t) bf_entry_upper ?_ (bf_args_upper _)
  unfold Builtin.«bytes.upper» Builtin.Bytes.mappedM
  refine wpAny_bind (m := selfOnly _ _) (wpAny_pure ?_)
  refine wpAny_bind (m := Builtin.Bytes.payload _) (wpAny_of_eq (a := x) rfl ?_)
  exact wpAny_bind (wpAny_mkBytes (wpAny_pure ⟨_, rfl, h _ _ F.toks⟩) (by simpa using hz))
theorem isi_bytes {x : Array UInt8} {t : Tok} {T : String} {Q : Value → Shared → Prop} (F : Fm s₀ b₀ b L own m s) (hne : (Value.type "bytes" == Value.type T) = false) (hty : typeOf (.type T) = pure (.type "type"))
    (hsub : isSubtype (.type "bytes") (.type T) = pure false) (h : ∀ s', Fm s₀ b₀ b L own m s' → Q (.bool false) s') : wpAny (model prog w) A (call (.builtin "isinstance") [.bytes x t, .type T]) Q E s := by
  refine call_isinstance_of ?_ (by intro e; cases e)
  obtain ⟨hp, g, d, tk, os⟩ := s
  exact isinstance_nested_false_bytes hne hty hsub (h _ F.toks)
theorem isi_str {Q : Value → Shared → Prop} {x : Array UInt8} {t : Tok} (F : Fm s₀ b₀ b L own m s) (h : ∀ s', Fm s₀ b₀ b L own m s' → Q (.bool false) s') : wpAny (model prog w) A (call (.builtin "isinstance") [.bytes x t, .type "str"]) Q E s :=
  isi_bytes F (by decide) (by kernel_rfl) (by rw [isSubtype_type]; kernel_rfl) h
theorem isi_mv {Q : Value → Shared → Prop} {x : Array UInt8} {t : Tok} (F : Fm s₀ b₀ b L own m s) (h : ∀ s', Fm s₀ b₀ b L own m s' → Q (.bool false) s') : wpAny (model prog w) A (call (.builtin "isinstance") [.bytes x t, .type "memoryview"]) Q E s :=
  isi_bytes F (by decide) (by kernel_rfl) (by rw [isSubtype_type]; kernel_rfl) h
theorem c_bytes {x : List UInt8} {k : Nat} {pos : Pos} {Q : Value → Shared → Prop} (F : Fm s₀ b₀ b L own m s) (h : ∀ t s', Fm s₀ b₀ b L own m s' → Q (.bytes x.toArray t) s') : wpAny (model prog w) A (eval (.Constant (.bytes x) k pos) env) Q E s :=
  PySem.W.Constant_bytes (h _ _ F.toks)
end
section
open Builtin
variable {prog : Program} {w : World} {A : Around} {E : Value → Shared → Prop} {s : Shared} {env : Env} {s₀ : Shared} {b₀ b b' : Heap} {L : Addr} {own : List (Addr × Obj)} {m : Str → Option Value}
theorem if_no {c : Prop} [Decidable c] {X Y : Prop} (hc : ¬ c) (h : Y) : if c then X else Y := by rw [if_neg hc]; exact h
theorem args_oi4 (a b c d : Value) : argsOk "object.__init__" ⟨[a, b, c, d], []⟩ := by unfold argsOk; kernel_rfl
theorem run_ascii {M : Model} {id : String} {er : Option Str} {x : Array UInt8} {Q : Array Nat × Nat → Shared → Prop} (ha : ∀ c ∈ x.toList, c.toNat < 128) (hz : x.size ≤ 1000) (h : Q ((x.toList.map (·.toNat)).toArray, x.size) s) :
    wpAny M A (_codecs.runDecoder id _codecs.asciiDecoder er true x 0 []) Q E s := by
  unfold _codecs.runDecoder
  dsimp only
  rw [Std.Legacy.Range.forIn_eq_forIn_range']
  refine wpAny_bind (wpAny_forIn_list _ (fun rest (y : Nat × Array Nat × _codecs.Faults) s' => y.1 + rest.length = x.size ∧ y.2.1 = ((x.toList.take y.1).map (·.toNat)).toArray ∧ s' = s) _ ?_ ?_ _ _ ⟨?_, ?_, rfl⟩)
  · rintro q rest ⟨p, out, st⟩ s' ⟨h1, h2, rfl⟩
    dsimp only at h1 h2
    have hp : p < x.size := by simp only [List.length_cons] at h1; (first | lia | omega)
    have ho : ¬ out.size > sizeLine := by rw [h2, sizeLine_eq]; simp; (first | lia | omega)
    refine wpAny_ite (if_no ho ?_)
    refine wpAny_ite (if_no (Nat.not_le.mpr hp) ?_)
    have hc : (x.getD p 0).toNat < 128 := by
      have : x.getD p 0 ∈ x.toList := by simp [Array.getD, hp]
      exact ha _ this
    have hf : _codecs.asciiDecoder.find true x p = .text [(x.getD p 0).toNat] (p + 1) := by
      show (if (x.getD p 0).toNat < 128 then _ else _) = _
      rw [if_pos hc]; rfl
    rw [hf]
    refine wpAny_pure ⟨by simp only [List.length_cons] at h1; dsimp only; (first | lia | omega), ?_, rfl⟩
    dsimp only
    rw [h2, List.take_add_one]
    have : x.toList[p]? = some (x.getD p 0) := by simp [Array.getD, hp]
    rw [this]; simp
  · rintro ⟨p, out, st⟩ s' ⟨h1, h2, rfl⟩
    dsimp only at h1 h2
    simp only [List.length_nil, Nat.add_zero] at h1
    subst h1
    refine wpAny_pure ?_
    rw [h2, List.take_of_length_le (by simp)]; exact h
  · simp
  · simp
theorem str_tc (a c d : Value) : checkTypeCall "str" ⟨[a, c, d], []⟩ = pure () := by kernel_rfl
theorem str_nc (a c d : Value) : checkBuiltinCall "str.__new__" ⟨[.type "str", a, c, d], []⟩ = pure () := by kernel_rfl
theorem str_bind (a c d : Value) : Builtin.Str.bindOptional "str.__new__" "str" 0 ["object", "encoding", "errors"] [a, c, d] [] = pure [some a, some c, some d] := by kernel_rfl
theorem dec_eq {c : UInt8} {cs : List UInt8} {t t1 t2 : Tok} : «bytes.decode» ⟨[.bytes (c :: cs).toArray t], [("encoding", .str "ascii" t1), ("errors", .str "strict" t2)]⟩ = (mkStr "utf-8" >>= fun _ => mkStr "ascii" >>= fun e => mkStr "strict" >>= fun r => mkStr "bytes.decode" >>= fun d =>
    call (.builtin "_codecs.decode.text") [.bytes (c :: cs).toArray t, e, r, d] >>= fun v => ret v) := by kernel_rfl
theorem road_ascii {id : String} {x : Array UInt8} : _codecs.decodeRoad id x "ascii" (some "strict") [] = (_codecs.runDecoder id _codecs.asciiDecoder (some "strict") true x 0 [] >>= fun r => mkStr ⟨r.1⟩) := by kernel_rfl
theorem dec_args (v a c : Value) : argsOk "bytes.decode" ⟨[v], [("encoding", a), ("errors", c)]⟩ := by
  unfold argsOk; rw [signature?_of (id := "bytes.decode") (n := ['e', 'd', 'o', 'c', 'e', 'd']) (o := ['s', 'e', 't', 'y', 'b']) (by kernel_rfl) PySem.W.FB.owner_bytes]; kernel_rfl
theorem call_str_ascii {c : UInt8} {cs : List UInt8} {t t1 t2 : Tok} {Q : Value → Shared → Prop} (F : Fm s₀ b₀ b L own m s) (ha : ∀ y ∈ c :: cs, y.toNat < 128) (hz : (c :: cs).length ≤ 1000)
    (h : ∀ t s', Fm s₀ b₀ b L own m s' → Q (.str (S ((c :: cs).map (·.toNat))) t) s') : wpAny (model prog w) A (call (.type "str") [.bytes (c :: cs).toArray t, .str "ascii" t1, .str "strict" t2]) Q E s := by
  refine callType_codes (Q₁ := fun obj s₁ => s₁.TypeIs obj "str" ∧ Q obj s₁) PySem.F.called_str (str_tc _ _ _) PySem.F.entry_object_init ?_ fun obj s₁ h₁ => ?_
  · refine codeAny_of_tree ?_
    show wpAny _ A.in1.in1 (do checkBuiltinCall "str.__new__" ⟨[.type "str", .bytes (c :: cs).toArray t, .str "ascii" t1, .str "strict" t2], []⟩; again (.builtin "str.__new__" ⟨[.type "str", .bytes (c :: cs).toArray t, .str "ascii" t1, .str "strict" t2], []⟩)) _ _ s
    refine wpAny_bind (wpAny_of_eq (str_nc _ _ _) (wpAny_pure ⟨plainId_quiet (by decide +kernel) _, codeAny_builtin (b := Builtin.«str.__new__») (by first | exact entryFor_of_fast (by kernel_rfl) | exact entryFor_of_tree (by kernel_rfl)) ?_⟩))
    rw [Around.under_plainId (by decide +kernel) _]
    unfold Builtin.«str.__new__»
    refine wpAny_bind (wpAny_of_eq (a := true) rfl ?_)
    refine bm_if_false rfl ?_
    refine wpAny_bind (wpAny_of_eq (a := true) (by rw [isSubtype_type]; kernel_rfl) ?_)
    refine bm_if_false rfl ?_
    refine bm_if_false rfl ?_
    refine wpAny_bind (wpAny_of_eq (str_bind _ _ _) ?_)
    refine wpAny_bind (wpAny_of_eq (a := some ("ascii" : Str)) ?e1 ?_)
    case e1 => kernel_rfl
    refine wpAny_bind (wpAny_of_eq (a := some ("strict" : Str)) ?e2 ?_)
    case e2 => kernel_rfl
    refine wpAny_bind ?_
    refine (congrArg (fun z : Sem Value => wpAny (model prog w) A.in1.in1 z _ _ s) (?e : _ = (mkStr "ascii" >>= fun a => mkStr "strict" >>= fun e => rule "str.__new__.decode-bytes" >>= fun _ => call (.builtin "bytes.decode") [.bytes (c :: cs).toArray t] [("encoding", a), ("errors", e)]))).mpr ?_
    case e => kernel_rfl
    refine wpAny_bind (wpAny_mkStr ?_ (by decide))
    refine wpAny_bind (wpAny_mkStr ?_ (by decide))
    refine wpAny_bind (wpAny_rule ?_)
    refine wpAny_call (codeAny_call_builtin PySem.W.FB.slot_bytes_decode.plain PySem.W.FB.entry_bytes_decode (PySem.W.FB.slot_bytes_decode.check _ _ _ _ _ _ _ _ (PySem.W.typeIs_bytes _ _ _) (dec_args _ _ _) ?_))
    rw [dec_eq]
    refine wpAny_bind (wpAny_mkStr ?_ (by decide))
    refine wpAny_bind (wpAny_mkStr ?_ (by decide))
    refine wpAny_bind (wpAny_mkStr ?_ (by decide))
    refine wpAny_bind (wpAny_mkStr ?_ (by decide))
    refine wpAny_bind (Calls.call_function_entry PySem.W.KBd.kind_text PySem.W.KBd.plain_text PySem.W.KBd.entry_text (PySem.W.KBd.args_text _ _ _ _) ?_)
    show wpAny _ _ (Builtin.Bytes.bytesLike _ (.bytes (c :: cs).toArray t) >>= fun r => _) _ _ _
    refine wpAny_bind (wpAny_of_eq PySem.W.KBd.like_eq ?_)
    refine wpAny_bind (wpAny_of_eq PySem.W.KBd.held_eq ?_)
    show wpAny _ _ (_codecs.decodeRoad _ (c :: cs).toArray "ascii" (some "strict") [] >>= fun v => _) _ _ _
    rw [road_ascii]
    refine wpAny_bind (wpAny_bind (run_ascii (by simpa using ha) (by simpa using hz) ?_))
    refine wpAny_mkStr ?_ (small_len (by simp [Str.length]; simpa using hz))
    refine wpAny_pure ⟨_, rfl, ?_⟩
    refine wpAny_pure ?_
    exact wpAny_pure ⟨typeIs_str _ _ _, h _ _ (F.keeps (Keeps.mk' (StaysIn.refl _) ⟨rfl, rfl, rfl⟩))⟩
  · exact ⟨h₁.1, args_oi4 obj _ _ _, object_init_meets PySem.F.called_str.init.lookup PySem.F.called_str.made (by decide) prog w A.in1 _ s₁ ⟨h₁.1, rfl, h₁.2⟩⟩
end
section
variable {prog : Program} {w : World} {A : Around} {E : Value → Shared → Prop} {s : Shared} {env : Env} {s₀ : Shared} {b₀ b b' : Heap} {L : Addr} {own : List (Addr × Obj)} {m : Str → Option Value}
theorem call_str_ascii' {l : List UInt8} {t t1 t2 : Tok} {Q : Value → Shared → Prop} (F : Fm s₀ b₀ b L own m s) (hl : l ≠ []) (ha : ∀ y ∈ l, y.toNat < 128) (hz : l.length ≤ 1000)
    (h : ∀ t s', Fm s₀ b₀ b L own m s' → Q (.str (S (l.map (·.toNat))) t) s') : wpAny (model prog w) A (call (.type "str") [.bytes l.toArray t, .str "ascii" t1, .str "strict" t2]) Q E s := by
  cases l with
  | nil => exact absurd rfl hl
  | cons c cs => exact call_str_ascii F ha hz h
theorem sub_bto {value : PySem.Expr} {upper : PySem.Expr} {p pos : Pos} {Q : Value → Shared → Prop}
    (h : wpAny (model prog w) A (eval value env) (fun o s₁ => wpAny (model prog w) A (eval upper env) (fun vu s₃ =>
      ∃ s₀ b₀ L x t i u b own m, o = .bytes x t ∧ vu = .int i u ∧ 0 ≤ i ∧ i ≤ x.size ∧ x.size ≤ 16777216 ∧ Fm s₀ b₀ b L own m s₃ ∧ ∀ t' s', Fm s₀ b₀ b L own m s' → Q (.bytes (x.toList.take i.toNat).toArray t') s') E s₁) E s)
    (ht : ∀ o r, letTemporaryGo value o r = pure ()) : wpAny (model prog w) A (eval (.Subscript value (.Slice none (some upper) none p) pos) env) Q E s := by
  refine sub_bslice (wpAny_mono h (fun o s₁ h₁ => part_none (part_some (wpAny_mono h₁ (fun vu s₃ h₃ => ?_) fun _ _ x => x))) fun _ _ x => x) ht
  obtain ⟨s₀, b₀, L, x, t, i, u, b, own, m, rfl, rfl, h0, h1, hz, F, hQ⟩ := h₃
  refine ⟨s₀, b₀, L, x, t, _, _, b, own, m, rfl, .none, .int i u, by rw [sizeLine_eq]; exact hz, F, fun t' s' F' => ?_⟩
  have : clipAt x.size i = i.toNat := by unfold clipAt; split <;> (first | lia | omega)
  show Q (.bytes ((x.toList.drop 0).take (clipAt x.size i - 0)).toArray t') s'
  rw [List.drop_zero, this, Nat.sub_zero]; exact hQ _ _ F'
theorem sub_bfrom {value : PySem.Expr} {lower : PySem.Expr} {p pos : Pos} {Q : Value → Shared → Prop}
    (h : wpAny (model prog w) A (eval value env) (fun o s₁ => wpAny (model prog w) A (eval lower env) (fun vu s₃ =>
      ∃ s₀ b₀ L x t i u b own m, o = .bytes x t ∧ vu = .int i u ∧ 0 ≤ i ∧ i ≤ x.size ∧ x.size ≤ 16777216 ∧ Fm s₀ b₀ b L own m s₃ ∧ ∀ t' s', Fm s₀ b₀ b L own m s' → Q (.bytes (x.toList.drop i.toNat).toArray t') s') E s₁) E s)
    (ht : ∀ o r, letTemporaryGo value o r = pure ()) : wpAny (model prog w) A (eval (.Subscript value (.Slice (some lower) none none p) pos) env) Q E s := by
  refine sub_bslice (wpAny_mono h (fun o s₁ h₁ => part_some (wpAny_mono h₁ (fun vu s₃ h₃ => part_none ?_) fun _ _ x => x)) fun _ _ x => x) ht
  obtain ⟨s₀, b₀, L, x, t, i, u, b, own, m, rfl, rfl, h0, h1, hz, F, hQ⟩ := h₃
  refine ⟨s₀, b₀, L, x, t, _, _, b, own, m, rfl, .int i u, .none, by rw [sizeLine_eq]; exact hz, F, fun t' s' F' => ?_⟩
  have : clipAt x.size i = i.toNat := by unfold clipAt; split <;> (first | lia | omega)
  show Q (.bytes ((x.toList.drop (clipAt x.size i)).take (x.size - clipAt x.size i)).toArray t') s'
  rw [this, List.take_of_length_le (by simp)]; exact hQ _ _ F'
end
theorem rev_find {p : Nat → Bool} {k : Nat} : ∀ n, k < n → p k = true → (∀ i, k < i → i < n → p i = false) → (List.range n).reverse.find? p = some k
  | 0, h, _, _ => absurd h (Nat.not_lt_zero _)
  | n + 1, h, hk, hn => by
    rw [List.range_succ, List.reverse_append]
    simp only [List.reverse_cons, List.reverse_nil, List.nil_append, List.cons_append, List.find?_cons]
    rcases Nat.lt_or_ge k n with h' | h'
    · rw [hn n h' (Nat.lt_succ_self _)]
      exact rev_find n h' hk fun i h1 h2 => hn i h1 (Nat.lt_succ_of_lt h2)
    · obtain rfl : k = n := by (first | lia | omega)
      rw [hk]
theorem rev_find_none {p : Nat → Bool} {n : Nat} (h : ∀ i, i < n → p i = false) : (List.range n).reverse.find? p = none := by
  rw [List.find?_eq_none]
  intro x hx
  rw [h x (by simpa using hx)]; simp
theorem extract_one {x : Array UInt8} {i : Nat} (h : i < x.size) : (x.extract i (i + 1) == #[45]) = decide (x[i] = 45) := by
  have : x.extract i (i + 1) = #[x[i]] := by
    apply Array.ext
    · simp; (first | lia | omega)
    · intro j h1 h2
      simp at h2; subst h2
      simp
  rw [this]
  by_cases h : x[i] = 45 <;> simp [h]
theorem rfv_some {x : Array UInt8} {a g : List UInt8} (hx : x.toList = a ++ 45 :: g) (hg : ∀ c ∈ g, c ≠ 45) : rfv x = a.length := by
  have hs : x.size = a.length + g.length + 1 := by rw [← Array.length_toList, hx]; simp; (first | lia | omega)
  unfold rfv
  rw [if_neg (by (first | lia | omega))]
  have : Builtin.Bytes.rfind? x #[45] 0 x.size = some a.length := by
    unfold Builtin.Bytes.rfind?
    show ((List.range (x.size + 1 - (0 + 1))).map (· + 0)).reverse.find? (fun i => x.extract i (i + 1) == #[45]) = _
    simp only [Nat.add_zero, List.map_id', Nat.zero_add, Nat.add_sub_cancel]
    refine rev_find _ (by (first | lia | omega)) ?_ fun i h1 h2 => ?_
    · rw [extract_one (by (first | lia | omega))]
      have : x[a.length] = x.toList[a.length]'(by simp only [Array.length_toList]; (first | lia | omega)) := by simp
      rw [this]; simp [hx]
    · rw [extract_one h2]
      have e : x[i] = x.toList[i]'(by simp only [Array.length_toList]; (first | lia | omega)) := by simp
      rw [e]
      have : x.toList[i]? = g[i - a.length - 1]? := by
        rw [hx, List.getElem?_append_right (by (first | lia | omega)), List.getElem?_cons, if_neg (by (first | lia | omega))]
      have hgi : i - a.length - 1 < g.length := by (first | lia | omega)
      rw [List.getElem?_eq_getElem hgi, List.getElem?_eq_getElem (by simp only [Array.length_toList]; (first | lia | omega))] at this
      rw [Option.some.inj this]
      exact decide_eq_false (hg _ (List.getElem_mem ..))
  rw [this]
theorem rfv_none {x : Array UInt8} (hg : ∀ c ∈ x.toList, c ≠ 45) : rfv x = -1 := by
  unfold rfv
  by_cases hs : x.size < 1
  · rw [if_pos hs]
  rw [if_neg hs]
  have : Builtin.Bytes.rfind? x #[45] 0 x.size = none := by
    unfold Builtin.Bytes.rfind?
    show ((List.range (x.size + 1 - (0 + 1))).map (· + 0)).reverse.find? (fun i => x.extract i (i + 1) == #[45]) = _
    simp only [Nat.add_zero, List.map_id', Nat.zero_add, Nat.add_sub_cancel]
    refine rev_find_none fun i h => ?_
    rw [extract_one h]
    exact decide_eq_false (hg _ (by simp))
  rw [this]
theorem ggL_rng : ∀ (n : Nat) (N bias j : Int), 0 ≤ N → N.toNat = n → ∀ d ∈ ggL N bias j, 0 ≤ d ∧ d < 36 := by
  intro n
  induction n using Nat.strongRecOn with
  | ind n ih =>
    intro N bias j h0 hn d hd
    have t := Tf_rng j bias
    by_cases h : N < Tf j bias
    · rw [ggL_1 h] at hd
      obtain rfl := List.mem_singleton.mp hd
      omega
    · rw [ggL_2 h] at hd
      have hg := gg_lt h
      have h2 : 0 ≤ (N - Tf j bias) % (36 - Tf j bias) ∧ (N - Tf j bias) % (36 - Tf j bias) < 36 - Tf j bias := ⟨Int.emod_nonneg _ (by omega), Int.emod_lt_of_pos _ (by omega)⟩
      rcases List.mem_cons.mp hd with rfl | hd
      · omega
      · exact ih ((N - Tf j bias) / (36 - Tf j bias)).toNat (by omega) _ bias (j + 1) hg.1 rfl d hd
theorem dig_45 : ∀ d : Fin 36, dig (d.val : Int) ≠ 45 := by decide
theorem genB_45 (base : Int) : ∀ (ds : List Int) (p bias : Int), (∀ d ∈ ds, 0 ≤ d) → ∀ c ∈ genB base ds p bias, c ≠ 45
  | [], _, _, _, c, hc => nomatch hc
  | d :: ds, p, bias, h, c, hc => by
    have hc : c ∈ ggB d bias ++ genB base ds (p + 1) (adF d (decide (p = 0)) (base + p + 1)) := hc
    rcases List.mem_append.mp hc with hc | hc
    · unfold ggB at hc
      obtain ⟨k, hk, rfl⟩ := List.mem_map.mp hc
      obtain ⟨k0, k1⟩ := ggL_rng _ d bias 0 (h d (by simp)) rfl k hk
      have := dig_45 ⟨k.toNat, by omega⟩
      have e : ((k.toNat : Nat) : Int) = k := by omega
      simp only [e] at this
      exact this
    · exact genB_45 base ds _ _ (fun x hx => h x (by simp [hx])) c hc
theorem upper_upb (c : UInt8) : Builtin.Bytes.toUpper c = upb c := by
  unfold Builtin.Bytes.toUpper upb Builtin.Bytes.isLower
  by_cases h1 : 97 ≤ c <;> by_cases h2 : c ≤ 122 <;> simp [h1, h2]
/-- the label of a head and a row -/
def lab (h : List Nat) (ns : List Int) : List UInt8 := if h = [] then genB h.length ns 0 72 else h.map (·.toUInt8) ++ 45 :: genB h.length ns 0 72

theorem puny_con {w : World} {A : Around} {E : Value → Shared → Prop} {s₀ : Shared} {b : Heap} {mg mb : Str → Option Value} {a : Addr} {x : Array UInt8} {h : List Nat} {ns : List Int} {tx t : Tok} (st : b.StaysIn s₀.heap) (G : Gl P 30 mg mb b) (R : Rm A 4) (fn : IsFn b a (defAt P 8))
    (hn : ∀ d ∈ ns, 0 ≤ d ∧ d < 500000) (hlen : ns.length ≤ 32) (hl : h.length ≤ 32) (ha : ∀ c ∈ h, c < 128) (hx : x.toList = lab h ns) (hok : insOk h.length 128 (-1) ns) :
    wpAny (model P w) A (call (.ref a) [.bytes x tx, .str "strict" t]) (fun v s' => ∃ k b', v = .str (S (insL h 128 (-1) ns)) k ∧ Ex s₀ b s' b') E s₀ := by
  have hbig : (genB h.length ns 0 72).length ≤ 16000000 := by
    have := genB_len h.length 500000 ns 0 72 fun x hx => by have := hn x hx; omega
    omega
  have h45 := genB_45 h.length ns 0 72 fun d hd => (hn d hd).1
  have hz : x.size ≤ 16000033 := by
    rw [← Array.length_toList, hx]; unfold lab; split
    · omega
    · rw [List.length_append, List.length_map, List.length_cons]; omega
  have hr : rfv x = if h = [] then -1 else (h.length : Int) := by
    unfold lab at hx
    by_cases hh : h = []
    · rw [if_pos hh] at hx ⊢; exact rfv_none (by rw [hx]; exact h45)
    · rw [if_neg hh] at hx ⊢; rw [rfv_some hx h45, List.length_map]
  refine enter (binds := [("text", .bytes x tx), ("errors", .str "strict" t)]) st fn G.nolimit R.room (fun _ _ _ => rfl) rfl rfl rfl rfl (by decide) ?_
  intro L cd s₁ F
  rw [binds2] at F
  refine genA (R.deep _) fun A R => ?_
  refine cps fun Q hQ => ?_
  refine wpAny_execs_cons ?_
  walk_at "xs"
  refine isTrue_plain ?_
  walk_at "ct"
  refine isi_str F fun s F => ?_
  walk_at "xs"
  refine isTrue_plain ?_
  walk_at "ct"
  refine isi_mv F fun s F => ?_
  walk_at "xs"
  refine MethodCall_ ?_
  walk_at "xs"
  refine PySem.W.KBd.method_of _ (PySem.W.typeIs_bytes _ _ _) bf_slot_rfind bf_type_rfind PySem.W.KBd.noRef ?_
  refine callWith_method1 ?_
  walk_at "xs"
  refine bf_rfind F fun t s F => ?_
  walk_at "xs"
  · have hh : h = [] := by
      by_cases hh : h = []
      · exact hh
      · rw [if_neg hh] at hr; omega
    subst hh
    refine MethodCall_ ?_
    walk_at "xs"
    refine PySem.W.KBd.method_of _ (PySem.W.typeIs_bytes _ _ _) bf_slot_upper bf_type_upper PySem.W.KBd.noRef ?_
    refine callWith_method0 ?_
    refine bf_upper F (by rw [sizeLine_eq]; omega) fun t s F => ?_
    walk_at "xs"
    refine call_def (by assumption) (by assumption) (G.fn 7 (by decide) rfl) rfl rfl rfl rfl (by decide) rfl rfl ?_
    intro a fn
    walk_at "xs"
    rw [show (Str.ofString "") = S [] from by decide +kernel]
    refine ⟨F.le, wpAny_mono (ins_con F.le G R fn hn hlen hl ?_ hok) (fun v s h => ?_) (fun _ _ x => x)⟩
    · simp only [List.toList_toArray]
      rw [hx, show Builtin.Bytes.toUpper = upb from funext upper_upb]
      rfl
    · obtain ⟨k, b', rfl, xx⟩ := h
      exact hQ _ _ ⟨_, _, rfl, (F.call xx).ex⟩
  · have hh : h ≠ [] := by
      intro hh
      rw [if_pos hh] at hr; exact hc hr
    rw [if_neg hh] at hr
    unfold lab at hx
    rw [if_neg hh] at hx
    have hxl : x.size = h.length + 1 + (genB h.length ns 0 72).length := by rw [← Array.length_toList, hx]; simp; omega
    have ht : x.toList.take (rfv x).toNat = h.map (·.toUInt8) := by rw [hr, hx, Int.toNat_natCast, show h.length = (h.map (·.toUInt8)).length from by rw [List.length_map], List.take_left]
    have hd : x.toList.drop (rfv x + 1).toNat = genB h.length ns 0 72 := by
      rw [hr, hx, show ((h.length : Int) + 1).toNat = (h.map (·.toUInt8)).length + 1 from by rw [List.length_map]; omega, ← List.drop_drop, List.drop_left]; rfl
    have hm : (h.map (·.toUInt8)).map (·.toNat) = h := by
      rw [List.map_map]
      refine (List.map_congr_left fun c hc => ?_).trans (List.map_id h)
      have := ha c hc
      simp [Nat.toUInt8]; omega
    walk_at "ct"
    walk_at "sub_bto"
    walk_at "xs"
    rw [ht]
    refine call_str_ascii' F (by simpa using hh) ?_ (by rw [List.length_map]; omega) fun t s F => ?_
    · intro y hy
      obtain ⟨c, hc, rfl⟩ := List.mem_map.mp hy
      have := ha c hc
      simp [Nat.toUInt8]; omega
    rw [hm]
    walk_at "xs"
    refine MethodCall_ ?_
    walk_at "sub_bfrom"
    rw [hd]
    refine PySem.W.KBd.method_of _ (PySem.W.typeIs_bytes _ _ _) bf_slot_upper bf_type_upper PySem.W.KBd.noRef ?_
    refine callWith_method0 ?_
    refine bf_upper F (by rw [sizeLine_eq]; simp only [List.size_toArray]; omega) fun t s F => ?_
    walk_at "xs"
    refine call_def (by assumption) (by assumption) (G.fn 7 (by decide) rfl) rfl rfl rfl rfl (by decide) rfl rfl ?_
    intro a fn
    walk_at "xs"
    refine ⟨F.le, wpAny_mono (ins_con F.le G R fn hn hlen hl ?_ hok) (fun v s h => ?_) (fun _ _ x => x)⟩
    · simp only [List.toList_toArray]
      rw [show Builtin.Bytes.toUpper = upb from funext upper_upb]
    · obtain ⟨k, b', rfl, xx⟩ := h
      exact hQ _ _ ⟨_, _, rfl, (F.call xx).ex⟩
section
variable {prog : Program} {w : World} {A : Around} {E : Value → Shared → Prop} {s : Shared} {env : Env} {s₀ : Shared} {b₀ b b' : Heap} {L : Addr} {own : List (Addr × Obj)} {m : Str → Option Value}
/-- a list being made -/
abbrev lobj (vs : List Value) (n : Nat) : Obj := { cls := .type "list", data := .seq vs.toArray n }
theorem lobj_list {h : Heap} {a : Addr} {vs : List Value} {n : Nat} (e : h.get? a = some (lobj vs n)) : h.IsList a vs.toArray := ⟨_, e, rfl, n, rfl⟩

theorem new_list {vs : List Value} {Q : Value → Shared → Prop} (F : Fm s₀ b₀ b L own m s) (hz : vs.length ≤ 1000)
    (h : ∀ a b' s', b.StaysIn b' → Fm s₀ b₀ b' L own m s' → b'.IsList a vs.toArray → Q (.ref a) s') : wpAny (model prog w) A (newList vs) Q E s := by
  have k : Keeps s { s with heap := s.heap.push (lobj vs 0) } := Keeps.mk' (fun _ _ e => Heap.get?_push_of_some _ e) ⟨rfl, rfl, rfl⟩
  have X := Ex.know (a := s.heap.objs.size) F.le k none_size
  exact wpAny_newObj_type (h _ _ _ X.up (F.call X) ⟨_, only_iff.mpr ⟨.inr rfl, Heap.get?_push_size _ rfl⟩, rfl, _, rfl⟩) (by show vs.toArray.size ≤ sizeLine; rw [List.size_toArray, sizeLine_eq]; (first | lia | omega))
theorem new_listO {vs : List Value} {Q : Value → Shared → Prop} (F : Fm s₀ b₀ b L own m s) (hz : vs.length ≤ 1000)
    (h : ∀ a s', Fm s₀ b₀ b L ((a, lobj vs 0) :: own) m s' → Q (.ref a) s') : wpAny (model prog w) A (newList vs) Q E s :=
  wpAny_newObj_type (h _ _ (F.pushOwn (lobj vs 0) rfl)) (by show vs.toArray.size ≤ sizeLine; rw [List.size_toArray, sizeLine_eq]; (first | lia | omega))
theorem l_append {r : Addr} {vs : List Value} {n : Nat} {x : Value} {Q : Value → Shared → Prop} (F : Fm s₀ b₀ b L ((r, lobj vs n) :: own) m s) (hz : vs.length ≤ 1000)
    (h : ∀ s', Fm s₀ b₀ b L ((r, lobj (vs ++ [x]) (n + 1)) :: own) m s' → Q .none s') : wpAny (model prog w) A (call (.builtin "list.append") [.ref r, x]) Q E s := by
  refine append_at F.hd (fun h' hs he => ?_) (by rw [List.size_toArray, sizeLine_eq]; (first | lia | omega))
  rw [List.push_toArray] at he
  exact h _ (F.upd hs he)
theorem st_expr {e : PySem.Expr} {pos : Pos} {Q : Flow → Shared → Prop} (h : wpAny (model prog w) A (eval e env) (fun v s' => v = .none ∧ Q .next s') E s)
    (hi : interactive env = false := by rfl) (hs : swapsWith e none pos.line env = pure false := by rfl) : wpAny (model prog w) A (exec (.Expr e pos) env) Q E s := by
  rw [exec_Expr env e pos hi hs]
  refine wpAny_bind (wpAny_standAt (wpAny_bind (wpAny_mono h (fun v s' h' => ?_) fun _ _ x => x)))
  obtain ⟨rfl, h'⟩ := h'
  rw [dropValue_plain (v := .none) (by intro a x; cases x)]
  exact wpAny_pure h'
/-- o.append(e), o an own list -/
theorem st_append {o e : PySem.Expr} {apos pos epos : Pos} {Q : Flow → Shared → Prop}
    (h : wpAny (model prog w) A (eval o env) (fun ov s₁ => ∃ r vs n own b L m s₀ b₀, ov = .ref r ∧ Fm s₀ b₀ b L ((r, lobj vs n) :: own) m s₁ ∧
      wpAny (model prog w) A (eval e env) (fun x s₂ => ∃ vs n own b L m s₀ b₀, Fm s₀ b₀ b L ((r, lobj vs n) :: own) m s₂ ∧ vs.length ≤ 1000 ∧ ∀ s', Fm s₀ b₀ b L ((r, lobj (vs ++ [x]) (n + 1)) :: own) m s' → Q .next s') E s₁) E s)
    (pl : Sem Bool)
    (he : eval (.Call (.Attribute o "append" apos) [e] [] pos) env = (do let ov ← eval o env; standAt apos.atName; let (f, first) ← holding [ov] (getMethod ov "append" pl); callWith pos f first (backTo pos (starEach [e] env)) []))
    (hst : starEach [e] env = (false, eval e env) :: starEach [] env)
    (hi : interactive env = false := by rfl) (hs : swapsWith (.Call (.Attribute o "append" apos) [e] [] pos) none epos.line env = pure false := by rfl) :
    wpAny (model prog w) A (exec (.Expr (.Call (.Attribute o "append" apos) [e] [] pos) epos) env) Q E s := by
  refine st_expr (MethodCall_ (pl := pl) (wpAny_mono h (fun ov s₁ h₁ => ?_) fun _ _ x => x) he) hi hs
  obtain ⟨r, vs, n, own, b, L, m, s₀, b₀, rfl, F, h₁⟩ := h₁
  refine getMethod_list_append F.hd rfl rfl (callWith_method1 ?_ hst)
  refine wpAny_items_cons (wpAny_mono h₁ (fun x s₂ h₂ => wpAny_items_nil ?_) fun _ _ x => x) hst
  obtain ⟨vs, n, own, b, L, m, s₀, b₀, F, hz, h₂⟩ := h₂
  exact l_append F hz fun s' F => ⟨rfl, h₂ s' F⟩
/-- the own list becomes known -/
theorem Fm.freezeL {a : Addr} {vs : List Value} {n : Nat} (F : Fm s₀ b₀ b L ((a, lobj vs n) :: own) m s) : ∃ b', b.StaysIn b' ∧ Fm s₀ b₀ b' L own m s ∧ b'.IsList a vs.toArray := by
  obtain ⟨F', up, e⟩ := F.freeze
  exact ⟨_, up, F', lobj_list e⟩
theorem l_list {l : Addr} {vs : List Value} {Q : Value → Shared → Prop} (F : Fm s₀ b₀ b L own m s) (hl : b.IsList l vs.toArray) (hz : vs.length ≤ 1000000) (h : ∀ t s', Fm s₀ b₀ b L own m s' → Q (.int vs.length t) s') :
    wpAny (model prog w) A (call (.builtin "len") [.ref l]) Q E s := by
  refine Calls.call_len_list (IsList_keeps hl F.le) (by simp only [List.size_toArray]; (first | lia | omega)) ?_
  simp only [List.size_toArray]
  exact h _ _ F.toks
theorem Fm.push2 (F : Fm s₀ b₀ b L own m s) (o : Obj) {vs : List Value} : ∃ b', b.StaysIn b' ∧ Fm s₀ b₀ b' L own m { s with heap := (s.heap.push o).push (lobj vs 0) } ∧ b'.IsList (s.heap.objs.size + 1) vs.toArray := by
  have F1 : Fm s₀ b₀ b L ((s.heap.objs.size + 1, lobj vs 0) :: own) m { s with heap := (s.heap.push o).push (lobj vs 0) } := by
    have := (F.push o).pushOwn (lobj vs 0) rfl
    rw [show ({ s with heap := s.heap.push o } : Shared).heap.objs.size = s.heap.objs.size + 1 from Heap.size_push ..] at this
    exact this
  exact F1.freezeL
/-- l[lo:hi] -/
theorem sub_lslice {value : PySem.Expr} {lower upper : Option PySem.Expr} {p pos : Pos} {Q : Value → Shared → Prop}
    (h : wpAny (model prog w) A (eval value env) (fun o s₁ => wpAny (model prog w) A (evalPart lower env) (fun vl s₂ => wpAny (model prog w) A (evalPart upper env) (fun vu s₃ =>
      ∃ s₀ b₀ L l, ∃ xs : List Value, ∃ lo hi b own m, o = .ref l ∧ b.IsList l xs.toArray ∧ xs.length ≤ 1000 ∧ IsPart vl lo ∧ IsPart vu hi ∧ Fm s₀ b₀ b L own m s₃ ∧
        ∀ a b' s', b.StaysIn b' → Fm s₀ b₀ b' L own m s' → b'.IsList a (slicePick xs.toArray lo hi none) → Q (.ref a) s') E s₂) E s₁) E s)
    (ht : ∀ o r, letTemporaryGo value o r = pure ()) : wpAny (model prog w) A (eval (.Subscript value (.Slice lower upper none p) pos) env) Q E s := by
  refine wpAny_Subscript_list_slice (wpAny_mono h (fun o s₁ h₁ => wpAny_mono h₁ (fun vl s₂ h₂ => wpAny_mono h₂ (fun vu s₃ h₃ => ?_) fun _ _ x => x) fun _ _ x => x) fun _ _ x => x) ht
  obtain ⟨s₀, b₀, L, l, xs, lo, hi, b, own, m, rfl, hl, hz, pl, pu, F, hQ⟩ := h₃
  refine ⟨l, xs.toArray, lo, hi, rfl, IsList_keeps hl F.le, by rw [List.size_toArray, sizeLine_eq]; (first | lia | omega), pl, pu, ?_⟩
  obtain ⟨b', up, F', hl'⟩ := F.push2 { cls := .type "slice", data := .fields #[vl, vu, .none] } (vs := (slicePick xs.toArray lo hi none).toList)
  exact hQ _ b' _ up F' hl'
/-- l[lo:hi:st] -/
theorem sub_lstep {value st : PySem.Expr} {lower upper : Option PySem.Expr} {p pos : Pos} {Q : Value → Shared → Prop}
    (h : wpAny (model prog w) A (eval value env) (fun o s₁ => wpAny (model prog w) A (evalPart lower env) (fun vl s₂ => wpAny (model prog w) A (evalPart upper env) (fun vu s₃ => wpAny (model prog w) A (eval st env) (fun vs s₄ =>
      ∃ s₀ b₀ L l, ∃ xs : List Value, ∃ lo hi k b own m, o = .ref l ∧ b.IsList l xs.toArray ∧ xs.length ≤ 1000 ∧ IsPart vl lo ∧ IsPart vu hi ∧ IsPart vs (some k) ∧ k ≠ 0 ∧ Fm s₀ b₀ b L own m s₄ ∧
        ∀ a b' s', b.StaysIn b' → Fm s₀ b₀ b' L own m s' → b'.IsList a (slicePick xs.toArray lo hi (some k)) → Q (.ref a) s') E s₃) E s₂) E s₁) E s)
    (ht : ∀ o r, letTemporaryGo value o r = pure ()) : wpAny (model prog w) A (eval (.Subscript value (.Slice lower upper (some st) p) pos) env) Q E s := by
  refine wpAny_Subscript_Slice_step (T := "list") list_getitem_lookup (wpAny_mono h (fun o s₁ h₁ => wpAny_Slice (wpAny_mono h₁ (fun vl s₂ h₂ => wpAny_mono h₂ (fun vu s₃ h₃ => wpAny_mono h₃ (fun vs s₄ h₄ => ?_) fun _ _ x => x) fun _ _ x => x) fun _ _ x => x)) fun _ _ x => x) ht
  obtain ⟨s₀, b₀, L, l, xs, lo, hi, k, b, own, m, rfl, hl, hz, pl, pu, ps, hk, F, hQ⟩ := h₄
  have hl' := IsList_keeps hl F.le
  refine ⟨(hl'.push _).typeIs, wpAny_getItem_list_slice (hl'.push _) (Heap.IsSliceOf.new ..) pl pu ps (by simpa using hk) ?_ (by rw [List.size_toArray, sizeLine_eq]; (first | lia | omega))⟩
  rw [Heap.size_push]
  obtain ⟨b', up, F', hl'⟩ := F.push2 { cls := .type "slice", data := .fields #[vl, vu, vs] } (vs := (slicePick xs.toArray lo hi (some k)).toList)
  exact hQ _ b' _ up F' hl'
theorem Fm.setE {m' : Str → Option Value} {s' : Shared} (F : Fm s₀ b₀ b L own m s) (g : s'.gens = s.gens ∧ s'.drawn = s.drawn ∧ s'.os = s.os) (hn : s'.heap.Ns L m') (hs : ∀ a o, a ≠ L → s.heap.get? a = some o → s'.heap.get? a = some o) : Fm s₀ b₀ b L own m' s' := by
  obtain ⟨h, gs, d, t, os⟩ := s
  obtain ⟨h', gs', d', t', os'⟩ := s'
  obtain ⟨rfl, rfl, rfl⟩ := g
  exact ⟨hn, F.ex.turn F.outL.1 F.outL.2 hs, F.outL, fun p hp => ⟨hs p.1 _ (F.has p hp).2.2.2 (F.has p hp).1, (F.has p hp).2⟩, F.dis⟩
theorem Fm.setNew {m' : Str → Option Value} {s' : Shared} {a : Addr} {o : Obj} (F : Fm s₀ b₀ b L own m s) (g : s'.gens = s.gens ∧ s'.drawn = s.drawn ∧ s'.os = s.os) (hn : s'.heap.Ns L m') (hs : ∀ a o, a ≠ L → s.heap.get? a = some o → s'.heap.get? a = some o)
    (n : s.heap.get? a = none) (h : s'.heap.get? a = some o) : Fm s₀ b₀ b L ((a, o) :: own) m' s' := by
  have G := F.setE g hn hs
  obtain ⟨oL, _, _, hL, _⟩ := F.ns
  refine ⟨G.ns, G.ex, G.outL, fun p hp => ?_, List.pairwise_cons.mpr ⟨fun q hq e => ?_, G.dis⟩⟩
  · rcases List.mem_cons.mp hp with rfl | hp
    · exact ⟨h, none_up (Keeps.le F.ex.keep) n, none_up F.le n, fun e => by dsimp only at e; subst e; rw [hL] at n; cases n⟩
    · exact G.has p hp
  · dsimp only at e; subst e; rw [(F.has q hq).1] at n; cases n
/-- all live things above L -/
def above (h : Heap) (L : Nat) : List (Addr × Obj) := (List.range h.objs.size).filterMap fun a => if L < a then (h.get? a).map (a, ·) else none
theorem above_iff {h : Heap} {L a : Nat} {o : Obj} : (a, o) ∈ above h L ↔ L < a ∧ h.get? a = some o := by
  unfold above
  rw [List.mem_filterMap]
  constructor
  · rintro ⟨x, hx, e⟩
    split at e
    · rename_i hl
      cases q : h.get? x with
      | none => rw [q] at e; cases e
      | some o' => rw [q] at e; cases e; exact ⟨hl, q⟩
    · cases e
  · rintro ⟨hl, e⟩
    exact ⟨a, List.mem_range.mpr (Heap.lt_size e), by rw [if_pos hl, e]; rfl⟩
def below (h : Heap) (L : Nat) : Heap := { h with objs := h.objs.extract 0 L }
theorem below_iff {h : Heap} {L a : Nat} {o : Obj} : (below h L).get? a = some o ↔ a < L ∧ h.get? a = some o := by
  rw [Heap.get?_some_iff, Heap.get?_some_iff]
  show (h.objs.extract 0 L)[a]? = some o ∧ _ ↔ _
  rw [Array.getElem?_extract]
  by_cases hl : a < L
  · by_cases hs : a < h.objs.size
    · rw [if_pos (by (first | lia | omega))]; simp [hl]
    · rw [if_neg (by (first | lia | omega)), Array.getElem?_eq_none (by (first | lia | omega))]; simp
  · rw [if_neg (by (first | lia | omega))]; simp [hl]
/-- the kit's frame words, for a while -/
theorem Fm.toFr (F : Fm s₀ b₀ b L own m s) : Fr (below s.heap L) L s.heap m ∧ News (below s.heap L) L s.heap (above s.heap L) := by
  refine ⟨⟨F.ns, fun a o e => (below_iff.mp e).2, by show (s.heap.objs.extract 0 L).size ≤ L; rw [Array.size_extract]; (first | lia | omega)⟩, fun p hp => ?_⟩
  obtain ⟨a, o⟩ := p
  obtain ⟨h1, h2⟩ := above_iff.mp hp
  refine ⟨h2, Nat.ne_of_gt h1, ?_⟩
  cases e : (below s.heap L).get? a with
  | none => rfl
  | some o' => exact absurd (below_iff.mp e).1 (Nat.lt_asymm h1)
theorem fr_kept {h h' : Heap} {m' : Str → Option Value} (F' : Fr (below h L) L h' m') (N' : News (below h L) L h' (above h L)) : ∀ a o, a ≠ L → h.get? a = some o → h'.get? a = some o := fun a o ne e => by
  rcases Nat.lt_or_gt_of_ne ne with hl | hl
  · exact F'.keep _ _ (below_iff.mpr ⟨hl, e⟩)
  · exact (N' _ (above_iff.mpr ⟨hl, e⟩)).1
theorem fr_new {h h' : Heap} {a : Addr} {o : Obj} (N' : News (below h L) L h' ((a, o) :: above h L)) (hd : ∀ q ∈ above h L, q.1 < a) : h.get? a = none ∧ h'.get? a = some o := by
  obtain ⟨h1, h2, h3⟩ := N' _ List.mem_cons_self
  refine ⟨?_, h1⟩
  cases e : h.get? a with
  | none => rfl
  | some o' =>
    rcases Nat.lt_or_gt_of_ne h2 with hl | hl
    · rw [below_iff.mpr ⟨hl, e⟩] at h3; cases h3
    · exact absurd (hd _ (above_iff.mpr ⟨hl, e⟩)) (Nat.lt_irrefl _)
theorem add_lists {l k : Addr} {xs ys : List Value} {Q : Value → Shared → Prop} (F : Fm s₀ b₀ b L own m s) (hl : b.IsList l xs.toArray) (hk : b.IsList k ys.toArray) (hz : xs.length + ys.length ≤ 1000)
    (h : ∀ a b' s', b.StaysIn b' → Fm s₀ b₀ b' L own m s' → b'.IsList a (xs ++ ys).toArray → Q (.ref a) s') : wpAny (model prog w) A (binaryOp .Add (.ref l) (.ref k)) Q E s := by
  obtain ⟨Fh, N⟩ := F.toFr
  refine add_arrays (hsz := by simp only [List.size_toArray]; rw [sizeLine_eq]; (first | lia | omega)) Fh N (IsList_keeps hl F.le) (IsList_keeps hk F.le) fun h' F' N' => ?_
  have e := fr_kept F' fun p hp => N' p (List.mem_cons_of_mem _ hp)
  have G : Fm s₀ b₀ b L ((s.heap.objs.size, lobj (xs ++ ys) 0) :: own) m { s with heap := h' } := F.setNew ⟨rfl, rfl, rfl⟩ F'.ns e none_size (N' _ List.mem_cons_self).1
  obtain ⟨b', up, G, hl⟩ := G.freezeL
  exact h _ _ _ up G hl
end
def IntV (v : Value) (x : Int) : Prop := ∃ t, v = .int x t
def PairV (b : Heap) (v : Value) (x : Int × Int) : Prop := ∃ T, v = .ref T ∧ TupI b T [x.1, x.2]
theorem PairV.keeps {b b' : Heap} {v : Value} {x : Int × Int} (h : PairV b v x) (k : b.StaysIn b') : PairV b' v x := by
  obtain ⟨T, e, t⟩ := h; exact ⟨T, e, t.keeps k⟩
/-- vs holds xs, thing by thing -/
def Ev {α : Type} (R : Value → α → Prop) (vs : List Value) (xs : List α) : Prop := vs.length = xs.length ∧ ∀ (i : Nat) (v : Value) (x : α), vs[i]? = some v → xs[i]? = some x → R v x
section
variable {α β : Type} {R : Value → α → Prop} {vs us : List Value} {xs ys : List α}
theorem Ev.nil : Ev R [] ([] : List α) := ⟨rfl, fun _ _ _ h => by simp at h⟩
theorem Ev.len (h : Ev R vs xs) : vs.length = xs.length := h.1
theorem Ev.cons {v : Value} {x : α} (h : R v x) (t : Ev R vs xs) : Ev R (v :: vs) (x :: xs) := by
  refine ⟨by simp [t.1], fun i v' x' hv hx => ?_⟩
  cases i with
  | zero =>
    simp only [List.getElem?_cons_zero, Option.some.injEq] at hv hx
    subst hv hx; exact h
  | succ i => exact t.2 i v' x' (by simpa using hv) (by simpa using hx)
theorem Ev.head {v : Value} {x : α} (h : Ev R (v :: vs) (x :: xs)) : R v x := h.2 0 v x rfl rfl
theorem Ev.tail {v : Value} {x : α} (h : Ev R (v :: vs) (x :: xs)) : Ev R vs xs := ⟨by have := h.1; simpa using this, fun i v' x' hv hx => h.2 (i + 1) v' x' (by simpa using hv) (by simpa using hx)⟩
theorem Ev.mono {R' : Value → α → Prop} (h : Ev R vs xs) (k : ∀ v x, R v x → R' v x) : Ev R' vs xs := ⟨h.1, fun i v x hv hx => k _ _ (h.2 i v x hv hx)⟩
theorem Ev.app (h : Ev R vs xs) (h' : Ev R us ys) : Ev R (vs ++ us) (xs ++ ys) := by
  refine ⟨by simp [h.1, h'.1], fun i v x hv hx => ?_⟩
  rw [List.getElem?_append] at hv hx
  rw [h.1] at hv
  split at hv
  · rename_i hl
    rw [if_pos hl] at hx
    exact h.2 i v x hv hx
  · rename_i hl
    rw [if_neg hl] at hx
    exact h'.2 _ v x hv hx
theorem Ev.snoc {v : Value} {x : α} (h : Ev R vs xs) (k : R v x) : Ev R (vs ++ [v]) (xs ++ [x]) := h.app (.cons k .nil)
theorem Ev.take (h : Ev R vs xs) (n : Nat) : Ev R (vs.take n) (xs.take n) := by
  refine ⟨by simp [h.1], fun i v x hv hx => ?_⟩
  rw [List.getElem?_take] at hv hx
  split at hv
  · rename_i hl
    rw [if_pos hl] at hx
    exact h.2 i v x hv hx
  · cases hv
theorem Ev.get {x : α} {i : Nat} (h : Ev R vs xs) (hx : xs[i]? = some x) : ∃ v, vs[i]? = some v ∧ R v x := by
  have hi : i < vs.length := by rw [h.1]; exact (List.getElem?_eq_some_iff.mp hx).1
  exact ⟨vs[i], List.getElem?_eq_getElem hi, h.2 i _ x (List.getElem?_eq_getElem hi) hx⟩
theorem Ev.getV {v : Value} {i : Nat} (h : Ev R vs xs) (hv : vs[i]? = some v) : ∃ x, xs[i]? = some x ∧ R v x := by
  have hi : i < xs.length := by rw [← h.1]; exact (List.getElem?_eq_some_iff.mp hv).1
  exact ⟨xs[i], List.getElem?_eq_getElem hi, h.2 i v _ hv (List.getElem?_eq_getElem hi)⟩
/-- picks at places -/
theorem Ev.picks (h : Ev R vs xs) : ∀ is : List Nat, Ev R (is.filterMap (vs[·]?)) (is.filterMap (xs[·]?))
  | [] => .nil
  | i :: is => by
    rw [List.filterMap_cons, List.filterMap_cons]
    by_cases hi : i < vs.length
    · have hx : i < xs.length := by rw [← h.1]; exact hi
      rw [List.getElem?_eq_getElem hi, List.getElem?_eq_getElem hx]
      exact .cons (h.2 i _ _ (List.getElem?_eq_getElem hi) (List.getElem?_eq_getElem hx)) (h.picks is)
    · rw [List.getElem?_eq_none (by omega), List.getElem?_eq_none (by rw [← h.1]; omega)]
      exact h.picks is
end
theorem Ev.ints : ∀ {vs : List Value} {xs : List Int}, Ev IntV vs xs → IntsAre vs xs
  | [], [], _ => .nil
  | [], _ :: _, h => by have := h.1; simp at this
  | _ :: _, [], h => by have := h.1; simp at this
  | v :: vs, x :: xs, h => by
    obtain ⟨t, rfl⟩ := h.head
    exact .cons x t (Ev.ints h.tail)
theorem ints_ev : ∀ {vs : List Value} {xs : List Int}, IntsAre vs xs → Ev IntV vs xs
  | _, _, .nil => .nil
  | _, _, .cons n t r => .cons ⟨t, rfl⟩ (ints_ev r)
/-- the list at l holds xs -/
def Ls {α : Type} (R : Value → α → Prop) (b : Heap) (l : Addr) (xs : List α) : Prop := ∃ vs, b.IsList l vs.toArray ∧ Ev R vs xs
abbrev LI (b : Heap) (l : Addr) (xs : List Int) : Prop := Ls IntV b l xs
abbrev LP (b : Heap) (l : Addr) (xs : List (Int × Int)) : Prop := Ls (PairV b) b l xs
theorem Ls.keeps {α : Type} {R R' : Value → α → Prop} {b b' : Heap} {l : Addr} {xs : List α} (h : Ls R b l xs) (k : b.StaysIn b') (m : ∀ v x, R v x → R' v x) : Ls R' b' l xs := by
  obtain ⟨vs, hl, e⟩ := h; exact ⟨vs, IsList_keeps hl k, e.mono m⟩
theorem LI_keeps {b b' : Heap} {l : Addr} {xs : List Int} (h : LI b l xs) (k : b.StaysIn b') : LI b' l xs := Ls.keeps h k fun _ _ x => x
theorem LP_keeps {b b' : Heap} {l : Addr} {xs : List (Int × Int)} (h : LP b l xs) (k : b.StaysIn b') : LP b' l xs := Ls.keeps h k fun _ _ x => x.keeps k
section
variable {prog : Program} {w : World} {A : Around} {E : Value → Shared → Prop} {s : Shared} {env : Env} {s₀ : Shared} {b₀ b b' : Heap} {L : Addr} {own : List (Addr × Obj)} {m : Str → Option Value}
end
section
variable {prog : Program} {w : World} {A : Around} {E : Value → Shared → Prop} {s : Shared} {env : Env} {s₀ : Shared} {b₀ b b' : Heap} {L : Addr} {own : List (Addr × Obj)} {m : Str → Option Value}
def NsObjOf (o : Obj) (m : Str → Option Value) : Prop := ∀ (h : Heap) (L : Addr), h.get? L = some o → h.Ns L m
theorem Ns_obj {h : Heap} {L : Addr} {m : Str → Option Value} (x : h.Ns L m) : ∃ o, h.get? L = some o ∧ NsObjOf o m := by
  obtain ⟨o, es, ep, ho, r⟩ := x
  exact ⟨o, ho, fun h' L' e => ⟨o, es, ep, e, r⟩⟩
/-- another frame's names come to the front -/
theorem Fm.swapL {C : Addr} {oL : Obj} {m' : Str → Option Value} (F : Fm s₀ b₀ b C ((L, oL) :: own) m' s) (hm : NsObjOf oL m) : ∃ oC, NsObjOf oC m' ∧ Fm s₀ b₀ b L ((C, oC) :: own) m s := by
  obtain ⟨oC, hC, nC⟩ := Ns_obj F.ns
  have H := F.has _ List.mem_cons_self
  have D := List.pairwise_cons.mp F.dis
  refine ⟨oC, nC, hm _ _ H.1, F.ex, ⟨H.2.1, H.2.2.1⟩, fun p hp => ?_, List.pairwise_cons.mpr ⟨fun q hq => ?_, D.2⟩⟩
  · rcases List.mem_cons.mp hp with rfl | hp
    · exact ⟨hC, F.outL.1, F.outL.2, Ne.symm H.2.2.2⟩
    · have P := F.has p (List.mem_cons_of_mem _ hp)
      exact ⟨P.1, P.2.1, P.2.2.1, Ne.symm (D.1 p hp)⟩
  · exact Ne.symm (F.has q (List.mem_cons_of_mem _ hq)).2.2.2
theorem lc_assign_name {x : Str} {px : Pos} {v : Value} {Q : Unit → Shared → Prop} (F : Fm s₀ b₀ b L own m s) (hL : env.locals = L) (hk : env.scope.kind = .function) (hl : env.kindOf x = some .local)
    (h : ∀ s', Fm s₀ b₀ b L own (upd m x v) s' → Q () s') : wpAny (model prog w) A (assign (.Name x px) env v) Q E s := wpAny_assign_Name (st_name F hL hk hl h)

theorem Iter.moves {I : Addr} {oI : Obj} {n : Nat} {P : Nat → Value → Prop} {fp : List Addr} {St : Nat → Heap → Prop} {i : Nat} {bk b₁ b₂ b₀' : Heap} {L' : Addr} {own' : List (Addr × Obj)} {m' : Str → Option Value} {s' s₀' : Shared} (it : Iter prog w A bk I n P fp St)
    (F : Fm s₀ b₀ b₁ L own m s) (hI : (I, oI) ∈ own) (F' : Fm s₀' b₀' b₂ L' own' m' s') (hI' : (I, oI) ∈ own') (h1 : bk.StaysIn b₁) (h2 : bk.StaysIn b₂) (st : St i s.heap) : St i s'.heap := by
  refine it.W.frame _ _ _ st fun a ha o e => ?_
  by_cases haI : a = I
  · subst haI
    have h3 := (F.has _ hI).1
    rw [h3] at e; cases e
    exact (F'.has _ hI').1
  · obtain ⟨ob, hob⟩ := it.known a ha haI
    have q := F.le _ _ (h1 _ _ hob)
    rw [q] at e; cases e
    exact F'.le _ _ (h2 _ _ hob)
/-- the block of a comprehension, from its list on -/
theorem lc_block {target iter elt : PySem.Expr} {scope : Scope} {pos : Pos} {cl : List (Str × Addr)} {n : Nat} {P : Nat → Value → Prop} {I : Addr} {oI : Obj} {fp : List Addr} {St : Nat → Heap → Prop} {RR : Value → Addr → Result → Shared → Prop}
    (it : Iter prog w A b I n P fp St) (F : Fm s₀ b₀ b L (own ++ [(I, oI)]) m s) (st : St 0 s.heap) (hz : n ≤ 1000)
    (hcell : ∀ y ∈ scope.names, y.2 ≠ .cell) (hkind : scope.kind = .function)
    (J : Nat → Heap → List Value → Prop) (h0 : J 0 b [])
    (turn : ∀ (i : Nat) v b C D oL ys k m' ios s E, i < n → P i v → J i b ys → NsObjOf oL m → Fm s₀ b₀ b C ((D, lobj ys k) :: (L, oL) :: (own ++ ios)) m' s →
      wpAny (model prog w) A (assign target (compEnvC scope cl C env) v) (fun _ s₂ => wpAny (model prog w) A (eval elt (compEnvC scope cl C env)) (fun y s₃ => ∃ b' m'', b.StaysIn b' ∧ J (i + 1) b' (ys ++ [y]) ∧ Fm s₀ b₀ b' C ((D, lobj ys k) :: (L, oL) :: (own ++ ios)) m'' s₃) E s₂) E s)
    (done : ∀ b' C oC D ys k m' s, b.StaysIn b' → J n b' ys → NsObjOf oC m' → Fm s₀ b₀ b' L ((C, oC) :: (D, lobj ys k) :: own) m s → RR (.ref D) C (.ok .next) s)
    (hlen : ∀ i b ys, J i b ys → ys.length ≤ i)
    (ht : (∃ x p, target = .Name x p) ∨ ∃ elts k p, target = .Tuple elts k p) :
    wpAny (model prog w) A (newList []) (fun acc s₃ => wpAny (model prog w) A (newFunctionEnv scope env.globals cl [] env.qual none .none (some env)) (fun cenv s₄ =>
      codeAny (model prog w) A (.compStart (.ListComp elt [⟨target, iter, [], 0⟩] scope pos) 0 (.ref I) acc { cenv with scope := relabel scope env }) (RR acc cenv.locals) s₄) E s₃) E s := by
  refine new_listO F (Nat.zero_le _) fun D s F₀ => ?_
  have st := it.moves F (List.mem_append_right _ (List.mem_singleton.mpr rfl)) F₀ (List.mem_cons_of_mem _ (List.mem_append_right _ (List.mem_singleton.mpr rfl))) (StaysIn.refl _) (StaysIn.refl _) st
  have F := F₀
  refine wpAny_newFunctionEnv hcell (by intro y hy; simp at hy) (fun h₁ hns₁ hsb₁ => ?_) hkind
  obtain ⟨oC, hoC, nC⟩ := Ns_obj hns₁
  have k₁ : Keeps s { s with heap := h₁, toks := s.toks + ([] : List (Str × Value)).length } := Keeps.mk' (fun a o e => (hsb₁.2 a (Nat.ne_of_lt (Heap.lt_size e))).trans (Heap.get?_push_of_some _ e)) ⟨rfl, rfl, rfl⟩
  have st₁ : St 0 h₁ := it.W.frame _ _ _ st fun a _ o e => Keeps.le k₁ _ _ e
  obtain ⟨oL, nL, F₁⟩ := (F.newOwn k₁ none_size hoC).swapL nC
  have F₁ := F₁.swap
  generalize hC : s.heap.objs.size = C at *
  generalize hs₁ : ({ s with heap := h₁, toks := s.toks + ([] : List (Str × Value)).length } : Shared) = s₁ at *
  have st₁ : St 0 s₁.heap := by rw [← hs₁]; exact st₁
  have loop : codeAny (model prog w) A (.compLoop (.ListComp elt [⟨target, iter, [], 0⟩] scope pos) 0 (.ref I) (.ref D) (compEnvC scope cl C env)) (RR (.ref D) C) s₁ := by
    refine kcp_loop (fun c s => ∃ i b' ys k m' oI, c = n - i ∧ i ≤ n ∧ b.StaysIn b' ∧ J i b' ys ∧ Fm s₀ b₀ b' C ((D, lobj ys k) :: (L, oL) :: (own ++ [(I, oI)])) m' s ∧ St i s.heap) (fun c s hc => ?_) n
      ⟨0, b, [], 0, _, oI, rfl, Nat.zero_le _, StaysIn.refl _, h0, F₁, st₁⟩
    obtain ⟨i, b', ys, k, m', oI, rfl, hin, hb, hJ, F, st⟩ := hc
    by_cases hlt : i < n
    · refine it.W.item i s _ _ hlt st fun v h' tk hP st' hk => ?_
      obtain ⟨oI', hoI'⟩ := it.live _ _ st'
      have F' : Fm s₀ b₀ b' C ((D, lobj ys k) :: (L, oL) :: (own ++ [(I, oI')])) m' { s with heap := h', toks := tk } := Fm.many (own := (D, lobj ys k) :: (L, oL) :: own) (ios := [(I, oI)]) (ios' := [(I, oI')]) F (fun a o ha e => hk a o ha e) rfl (fun p hp => by obtain rfl := List.mem_singleton.mp hp; exact hoI')
      have back : ∀ s₃ b'' ys' k' m'', b'.StaysIn b'' → J (i + 1) b'' ys' → Fm s₀ b₀ b'' C ((D, lobj ys' k') :: (L, oL) :: (own ++ [(I, oI')])) m'' s₃ → ∃ m, m < n - i ∧ ∃ i b' ys k m' oI, m = n - i ∧ i ≤ n ∧ b.StaysIn b' ∧ J i b' ys ∧ Fm s₀ b₀ b' C ((D, lobj ys k) :: (L, oL) :: (own ++ [(I, oI)])) m' s₃ ∧ St i s₃.heap := by
        intro s₃ b'' ys' k' m'' hbb hJ' F''
        refine ⟨n - (i + 1), by (first | lia | omega), i + 1, b'', ys', k', m'', oI', rfl, hlt, StaysIn.trans hb hbb, hJ', F'', ?_⟩
        have hmem : ∀ (x y : Addr × Obj), (I, oI') ∈ x :: y :: (own ++ [(I, oI')]) := fun x y => List.mem_cons_of_mem _ (List.mem_cons_of_mem _ (List.mem_append_right _ (List.mem_singleton.mpr rfl)))
        exact it.moves F' (hmem _ _) F'' (hmem _ _) hb (StaysIn.trans hb hbb) st'
      have tail := fun E => turn i v b' C D oL ys k m' _ _ E hlt hP hJ nL F'
      have hl := hlen i b' ys hJ
      rcases ht with ⟨x, p, rfl⟩ | ⟨elts, kk, p, rfl⟩
      · refine wpAny_pure (wpAny_mono (tail _) (fun _ s₂ h₂ => wpAny_mono h₂ (fun y s₃ h₃ => by
        obtain ⟨b'', m'', hbb, hJ', F''⟩ := h₃
        exact l_append F'' (by (first | lia | omega)) fun s' F'' => back _ _ _ _ _ hbb hJ' F'') fun _ _ x => x) fun _ _ x => x)
      · refine it.go (i + 1) elts kk p v _ _ _ st' (wpAny_mono (tail _) (fun _ s₂ h₂ => wpAny_mono h₂ (fun y s₃ h₃ => by
        obtain ⟨b'', m'', hbb, hJ', F''⟩ := h₃
        exact l_append F'' (by (first | lia | omega)) fun s' F'' => back _ _ _ _ _ hbb hJ' F'') fun _ _ x => x) fun _ _ x => x)
    · obtain rfl : i = n := by (first | lia | omega)
      refine it.W.done s _ _ st fun h' tk hk => ?_
      have F' : Fm s₀ b₀ b' C ((D, lobj ys k) :: (L, oL) :: own) m' { s with heap := h', toks := tk } := Fm.manyDrop (own := (D, lobj ys k) :: (L, oL) :: own) (ios := [(I, oI)]) F fun a o ha e => hk a o ha e
      obtain ⟨oC, nC, F'⟩ := F'.swap.swapL nL
      exact done b' C oC D ys k m' _ hb hJ nC F'
  exact codeAny_compStart_list loop (it.W.self 0 _ _ _ st₁ loop)

/-- the block of a comprehension, from its list on -/
theorem lc_blockT {target iter elt c : PySem.Expr} {scope : Scope} {pos : Pos} {cl : List (Str × Addr)} {n : Nat} {P : Nat → Value → Prop} {I : Addr} {oI : Obj} {fp : List Addr} {St : Nat → Heap → Prop} {RR : Value → Addr → Result → Shared → Prop}
    (it : Iter prog w A b I n P fp St) (F : Fm s₀ b₀ b L (own ++ [(I, oI)]) m s) (st : St 0 s.heap) (hz : n ≤ 1000)
    (hcell : ∀ y ∈ scope.names, y.2 ≠ .cell) (hkind : scope.kind = .function)
    (J : Nat → Heap → List Value → Prop) (h0 : J 0 b [])
    (turn : ∀ (i : Nat) v b C D oL ys k m' ios s E, i < n → P i v → J i b ys → NsObjOf oL m → Fm s₀ b₀ b C ((D, lobj ys k) :: (L, oL) :: (own ++ ios)) m' s →
      wpAny (model prog w) A (assign target (compEnvC scope cl C env) v) (fun _ s₂ => wpAny (model prog w) A (isTrue c (compEnvC scope cl C env) (eval c (compEnvC scope cl C env))) (fun ok s₂ => if ok = true then wpAny (model prog w) A (eval elt (compEnvC scope cl C env)) (fun y s₃ => ∃ b' m'', b.StaysIn b' ∧ J (i + 1) b' (ys ++ [y]) ∧ Fm s₀ b₀ b' C ((D, lobj ys k) :: (L, oL) :: (own ++ ios)) m'' s₃) E s₂
        else ∃ b' m'', b.StaysIn b' ∧ J (i + 1) b' ys ∧ Fm s₀ b₀ b' C ((D, lobj ys k) :: (L, oL) :: (own ++ ios)) m'' s₂) E s₂) E s)
    (done : ∀ b' C oC D ys k m' s, b.StaysIn b' → J n b' ys → NsObjOf oC m' → Fm s₀ b₀ b' L ((C, oC) :: (D, lobj ys k) :: own) m s → RR (.ref D) C (.ok .next) s)
    (hlen : ∀ i b ys, J i b ys → ys.length ≤ i)
    (ht : (∃ x p, target = .Name x p) ∨ ∃ elts k p, target = .Tuple elts k p) :
    wpAny (model prog w) A (newList []) (fun acc s₃ => wpAny (model prog w) A (newFunctionEnv scope env.globals cl [] env.qual none .none (some env)) (fun cenv s₄ =>
      codeAny (model prog w) A (.compStart (.ListComp elt [⟨target, iter, [c], 0⟩] scope pos) 0 (.ref I) acc { cenv with scope := relabel scope env }) (RR acc cenv.locals) s₄) E s₃) E s := by
  refine new_listO F (Nat.zero_le _) fun D s F₀ => ?_
  have st := it.moves F (List.mem_append_right _ (List.mem_singleton.mpr rfl)) F₀ (List.mem_cons_of_mem _ (List.mem_append_right _ (List.mem_singleton.mpr rfl))) (StaysIn.refl _) (StaysIn.refl _) st
  have F := F₀
  refine wpAny_newFunctionEnv hcell (by intro y hy; simp at hy) (fun h₁ hns₁ hsb₁ => ?_) hkind
  obtain ⟨oC, hoC, nC⟩ := Ns_obj hns₁
  have k₁ : Keeps s { s with heap := h₁, toks := s.toks + ([] : List (Str × Value)).length } := Keeps.mk' (fun a o e => (hsb₁.2 a (Nat.ne_of_lt (Heap.lt_size e))).trans (Heap.get?_push_of_some _ e)) ⟨rfl, rfl, rfl⟩
  have st₁ : St 0 h₁ := it.W.frame _ _ _ st fun a _ o e => Keeps.le k₁ _ _ e
  obtain ⟨oL, nL, F₁⟩ := (F.newOwn k₁ none_size hoC).swapL nC
  have F₁ := F₁.swap
  generalize hC : s.heap.objs.size = C at *
  generalize hs₁ : ({ s with heap := h₁, toks := s.toks + ([] : List (Str × Value)).length } : Shared) = s₁ at *
  have st₁ : St 0 s₁.heap := by rw [← hs₁]; exact st₁
  have loop : codeAny (model prog w) A (.compLoop (.ListComp elt [⟨target, iter, [c], 0⟩] scope pos) 0 (.ref I) (.ref D) (compEnvC scope cl C env)) (RR (.ref D) C) s₁ := by
    refine kct_loop (fun c s => ∃ i b' ys k m' oI, c = n - i ∧ i ≤ n ∧ b.StaysIn b' ∧ J i b' ys ∧ Fm s₀ b₀ b' C ((D, lobj ys k) :: (L, oL) :: (own ++ [(I, oI)])) m' s ∧ St i s.heap) (fun c s hc => ?_) n
      ⟨0, b, [], 0, _, oI, rfl, Nat.zero_le _, StaysIn.refl _, h0, F₁, st₁⟩
    obtain ⟨i, b', ys, k, m', oI, rfl, hin, hb, hJ, F, st⟩ := hc
    by_cases hlt : i < n
    · refine it.W.item i s _ _ hlt st fun v h' tk hP st' hk => ?_
      obtain ⟨oI', hoI'⟩ := it.live _ _ st'
      have F' : Fm s₀ b₀ b' C ((D, lobj ys k) :: (L, oL) :: (own ++ [(I, oI')])) m' { s with heap := h', toks := tk } := Fm.many (own := (D, lobj ys k) :: (L, oL) :: own) (ios := [(I, oI)]) (ios' := [(I, oI')]) F (fun a o ha e => hk a o ha e) rfl (fun p hp => by obtain rfl := List.mem_singleton.mp hp; exact hoI')
      have back : ∀ s₃ b'' ys' k' m'', b'.StaysIn b'' → J (i + 1) b'' ys' → Fm s₀ b₀ b'' C ((D, lobj ys' k') :: (L, oL) :: (own ++ [(I, oI')])) m'' s₃ → ∃ m, m < n - i ∧ ∃ i b' ys k m' oI, m = n - i ∧ i ≤ n ∧ b.StaysIn b' ∧ J i b' ys ∧ Fm s₀ b₀ b' C ((D, lobj ys k) :: (L, oL) :: (own ++ [(I, oI)])) m' s₃ ∧ St i s₃.heap := by
        intro s₃ b'' ys' k' m'' hbb hJ' F''
        refine ⟨n - (i + 1), by (first | lia | omega), i + 1, b'', ys', k', m'', oI', rfl, hlt, StaysIn.trans hb hbb, hJ', F'', ?_⟩
        have hmem : ∀ (x y : Addr × Obj), (I, oI') ∈ x :: y :: (own ++ [(I, oI')]) := fun x y => List.mem_cons_of_mem _ (List.mem_cons_of_mem _ (List.mem_append_right _ (List.mem_singleton.mpr rfl)))
        exact it.moves F' (hmem _ _) F'' (hmem _ _) hb (StaysIn.trans hb hbb) st'
      have tail := fun E => turn i v b' C D oL ys k m' _ _ E hlt hP hJ nL F'
      have hl := hlen i b' ys hJ
      rcases ht with ⟨x, p, rfl⟩ | ⟨elts, kk, p, rfl⟩
      · refine wpAny_pure (wpAny_mono (tail _) (fun _ s₂ h₂ => wpAny_mono h₂ (fun ok s₃ h₃ => by
        cases ok with
        | false =>
          simp only [Bool.false_eq_true, if_false] at h₃ ⊢
          obtain ⟨b'', m'', hbb, hJ', F''⟩ := h₃
          exact back _ _ _ _ _ hbb hJ' F''
        | true =>
          simp only [if_true] at h₃ ⊢
          refine wpAny_mono h₃ (fun y s₄ h₄ => ?_) fun _ _ x => x
          obtain ⟨b'', m'', hbb, hJ', F''⟩ := h₄
          exact l_append F'' (by (first | lia | omega)) fun s' F'' => back _ _ _ _ _ hbb hJ' F'') fun _ _ x => x) fun _ _ x => x)
      · refine it.go (i + 1) elts kk p v _ _ _ st' (wpAny_mono (tail _) (fun _ s₂ h₂ => wpAny_mono h₂ (fun ok s₃ h₃ => by
        cases ok with
        | false =>
          simp only [Bool.false_eq_true, if_false] at h₃ ⊢
          obtain ⟨b'', m'', hbb, hJ', F''⟩ := h₃
          exact back _ _ _ _ _ hbb hJ' F''
        | true =>
          simp only [if_true] at h₃ ⊢
          refine wpAny_mono h₃ (fun y s₄ h₄ => ?_) fun _ _ x => x
          obtain ⟨b'', m'', hbb, hJ', F''⟩ := h₄
          exact l_append F'' (by (first | lia | omega)) fun s' F'' => back _ _ _ _ _ hbb hJ' F'') fun _ _ x => x) fun _ _ x => x)
    · obtain rfl : i = n := by (first | lia | omega)
      refine it.W.done s _ _ st fun h' tk hk => ?_
      have F' : Fm s₀ b₀ b' C ((D, lobj ys k) :: (L, oL) :: own) m' { s with heap := h', toks := tk } := Fm.manyDrop (own := (D, lobj ys k) :: (L, oL) :: own) (ios := [(I, oI)]) F fun a o ha e => hk a o ha e
      obtain ⟨oC, nC, F'⟩ := F'.swap.swapL nL
      exact done b' C oC D ys k m' _ hb hJ nC F'
  exact codeAny_compStart_list loop (it.W.self 0 _ _ _ st₁ loop)
end
section
variable {prog : Program} {w : World} {A : Around} {E : Value → Shared → Prop} {s : Shared} {env : Env}
/-- the list of a comprehension, each thing by one turn -/
def LcTurn (prog : Program) (w : World) (A : Around) (env : Env) (target elt : PySem.Expr) (scope : Scope) (cl : List (Str × Addr)) (s₀ : Shared) (b₀ b₁ : Heap) (L : Addr) (own : List (Addr × Obj)) (m : Str → Option Value) (n : Nat) (P : Nat → Value → Prop) (J : Nat → Heap → List Value → Prop) : Prop :=
  ∀ (i : Nat) v b C D oL ys k m' ios s (E : Value → Shared → Prop), i < n → P i v → J i b ys → NsObjOf oL m → b₁.StaysIn b → Fm s₀ b₀ b C ((D, lobj ys k) :: (L, oL) :: (own ++ ios)) m' s →
      wpAny (model prog w) A (assign target (compEnvC scope cl C env) v) (fun _ s₂ => wpAny (model prog w) A (eval elt (compEnvC scope cl C env)) (fun y s₃ => ∃ b' m'', b.StaysIn b' ∧ J (i + 1) b' (ys ++ [y]) ∧ Fm s₀ b₀ b' C ((D, lobj ys k) :: (L, oL) :: (own ++ ios)) m'' s₃) E s₂) E s
def LcTurnT (prog : Program) (w : World) (A : Around) (env : Env) (target elt c : PySem.Expr) (scope : Scope) (cl : List (Str × Addr)) (s₀ : Shared) (b₀ b₁ : Heap) (L : Addr) (own : List (Addr × Obj)) (m : Str → Option Value) (n : Nat) (P : Nat → Value → Prop) (J : Nat → Heap → List Value → Prop) : Prop :=
  ∀ (i : Nat) v b C D oL ys k m' ios s (E : Value → Shared → Prop), i < n → P i v → J i b ys → NsObjOf oL m → b₁.StaysIn b → Fm s₀ b₀ b C ((D, lobj ys k) :: (L, oL) :: (own ++ ios)) m' s →
      wpAny (model prog w) A (assign target (compEnvC scope cl C env) v) (fun _ s₂ => wpAny (model prog w) A (isTrue c (compEnvC scope cl C env) (eval c (compEnvC scope cl C env))) (fun ok s₂ => if ok = true then wpAny (model prog w) A (eval elt (compEnvC scope cl C env)) (fun y s₃ => ∃ b' m'', b.StaysIn b' ∧ J (i + 1) b' (ys ++ [y]) ∧ Fm s₀ b₀ b' C ((D, lobj ys k) :: (L, oL) :: (own ++ ios)) m'' s₃) E s₂
        else ∃ b' m'', b.StaysIn b' ∧ J (i + 1) b' ys ∧ Fm s₀ b₀ b' C ((D, lobj ys k) :: (L, oL) :: (own ++ ios)) m'' s₂) E s₂) E s
def Jk (b₁ : Heap) (J : Nat → Heap → List Value → Prop) (i : Nat) (b : Heap) (ys : List Value) : Prop := b₁.StaysIn b ∧ ys.length ≤ i ∧ J i b ys

theorem lc_eval {target iter elt : PySem.Expr} {scope : Scope} {pos : Pos} {cl : List (Str × Addr)} {Q : Value → Shared → Prop}
    (h : wpAny (model prog w) A (eval iter env) (fun x s₁ => ∃ s₀ b₀ b L own m n P J, Fm s₀ b₀ b L own m s₁ ∧ n ≤ 1000 ∧ J 0 b [] ∧ IterOf prog w A x b n P s₁ ∧ LcTurn prog w A env target elt scope cl s₀ b₀ b L own m n P J ∧
      ∀ b' b'' D ys s, b.StaysIn b' → J n b' ys → ys.length ≤ n → b'.StaysIn b'' → b''.IsList D ys.toArray → Fm s₀ b₀ b'' L own m s → Q (.ref D) s) E s)
    (hclos : closureFor scope env = pure cl) (hcell : ∀ y ∈ scope.names, y.2 ≠ .cell) (hkind : scope.kind = .function) (hnames : ∀ x ∈ scope.names, x.2 = .local → scope.names.lookup x.1 = some .local)
    (ht : (∃ x p, target = .Name x p) ∨ ∃ elts k p, target = .Tuple elts k p) (hs : ∀ x, foldedSetIterable iter env x = pure x) :
    wpAny (model prog w) A (eval (.ListComp elt [⟨target, iter, [], 0⟩] scope pos) env) Q E s := by
  rw [eval_ListComp]
  refine wpAny_comprehension_free (use := none) rfl hs hclos hkind hnames (wpAny_mono h (fun x s₁ h₁ => ?_) fun _ _ e => e)
  obtain ⟨s₀, b₀, b, L, own, m, n, P, J, F, hn, h0, it, turn, done⟩ := h₁
  refine it _ _ fun I fp St s₂ it k hnew st => ?_
  obtain ⟨oI, hoI⟩ := it.live _ _ st
  have F₂ : Fm s₀ b₀ b L (own ++ [(I, oI)]) m s₂ := (F.newOwn k hnew hoI).perm (List.perm_append_singleton (I, oI) own).symm
  refine lc_block (RR := fun acc C => compPost (model prog w) A E none Q acc C) it F₂ st hn hcell hkind (Jk b J) ⟨StaysIn.refl _, Nat.zero_le _, h0⟩ ?_ ?_ (fun _ _ _ x => x.2.1) ht
  · intro i v b' C D oL ys k m' ios s E hi hP hJ nL F
    refine wpAny_mono (turn i v b' C D oL ys k m' ios s E hi hP hJ.2.2 nL hJ.1 F) (fun _ s₂ h₂ => wpAny_mono h₂ (fun y s₃ h₃ => ?_) fun _ _ x => x) fun _ _ x => x
    obtain ⟨b'', m'', up, hJ', F'⟩ := h₃
    exact ⟨b'', m'', up, ⟨StaysIn.trans hJ.1 up, by rw [List.length_append]; exact Nat.succ_le_succ hJ.2.1, hJ'⟩, F'⟩
  · intro b' C oC D ys k m' s up hJ nC F
    refine ⟨m', nC _ _ F.hd, fun h' hs' => ?_⟩
    obtain ⟨b'', up', F', hl⟩ := (F.updDrop hs'.extBut).freezeL
    exact done b' b'' D ys _ up hJ.2.2 hJ.2.1 up' hl F'
theorem lc_evalT {target iter elt c : PySem.Expr} {scope : Scope} {pos : Pos} {cl : List (Str × Addr)} {Q : Value → Shared → Prop}
    (h : wpAny (model prog w) A (eval iter env) (fun x s₁ => ∃ s₀ b₀ b L own m n P J, Fm s₀ b₀ b L own m s₁ ∧ n ≤ 1000 ∧ J 0 b [] ∧ IterOf prog w A x b n P s₁ ∧ LcTurnT prog w A env target elt c scope cl s₀ b₀ b L own m n P J ∧
      ∀ b' b'' D ys s, b.StaysIn b' → J n b' ys → ys.length ≤ n → b'.StaysIn b'' → b''.IsList D ys.toArray → Fm s₀ b₀ b'' L own m s → Q (.ref D) s) E s)
    (hclos : closureFor scope env = pure cl) (hcell : ∀ y ∈ scope.names, y.2 ≠ .cell) (hkind : scope.kind = .function) (hnames : ∀ x ∈ scope.names, x.2 = .local → scope.names.lookup x.1 = some .local)
    (ht : (∃ x p, target = .Name x p) ∨ ∃ elts k p, target = .Tuple elts k p) (hs : ∀ x, foldedSetIterable iter env x = pure x) :
    wpAny (model prog w) A (eval (.ListComp elt [⟨target, iter, [c], 0⟩] scope pos) env) Q E s := by
  rw [eval_ListComp]
  refine wpAny_comprehension_free (use := none) rfl hs hclos hkind hnames (wpAny_mono h (fun x s₁ h₁ => ?_) fun _ _ e => e)
  obtain ⟨s₀, b₀, b, L, own, m, n, P, J, F, hn, h0, it, turn, done⟩ := h₁
  refine it _ _ fun I fp St s₂ it k hnew st => ?_
  obtain ⟨oI, hoI⟩ := it.live _ _ st
  have F₂ : Fm s₀ b₀ b L (own ++ [(I, oI)]) m s₂ := (F.newOwn k hnew hoI).perm (List.perm_append_singleton (I, oI) own).symm
  refine lc_blockT (RR := fun acc C => compPost (model prog w) A E none Q acc C) it F₂ st hn hcell hkind (Jk b J) ⟨StaysIn.refl _, Nat.zero_le _, h0⟩ ?_ ?_ (fun _ _ _ x => x.2.1) ht
  · intro i v b' C D oL ys k m' ios s E hi hP hJ nL F
    refine wpAny_mono (turn i v b' C D oL ys k m' ios s E hi hP hJ.2.2 nL hJ.1 F) (fun _ s₂ h₂ => wpAny_mono h₂ (fun ok s₃ h₃ => ?_) fun _ _ x => x) fun _ _ x => x
    cases ok with
    | false =>
      simp only [Bool.false_eq_true, if_false] at h₃ ⊢
      obtain ⟨b'', m'', up, hJ', F'⟩ := h₃
      exact ⟨b'', m'', up, ⟨StaysIn.trans hJ.1 up, Nat.le_succ_of_le hJ.2.1, hJ'⟩, F'⟩
    | true =>
      simp only [if_true] at h₃ ⊢
      refine wpAny_mono h₃ (fun y s₄ h₄ => ?_) fun _ _ x => x
      obtain ⟨b'', m'', up, hJ', F'⟩ := h₄
      exact ⟨b'', m'', up, ⟨StaysIn.trans hJ.1 up, by rw [List.length_append]; exact Nat.succ_le_succ hJ.2.1, hJ'⟩, F'⟩
  · intro b' C oC D ys k m' s up hJ nC F
    refine ⟨m', nC _ _ F.hd, fun h' hs' => ?_⟩
    obtain ⟨b'', up', F', hl⟩ := (F.updDrop hs'.extBut).freezeL
    exact done b' b'' D ys _ up hJ.2.2 hJ.2.1 up' hl F'
theorem lc_assign {target iter elt : PySem.Expr} {y : Str} {py spos : Pos} {scope : Scope} {pos : Pos} {cl : List (Str × Addr)} {Q : Flow → Shared → Prop}
    (h : wpAny (model prog w) A (eval iter env) (fun x s₁ => ∃ s₀ b₀ b own m n P J, Fm s₀ b₀ b env.locals own m s₁ ∧ n ≤ 1000 ∧ J 0 b [] ∧ IterOf prog w A x b n P s₁ ∧ LcTurn prog w A env target elt scope cl s₀ b₀ b env.locals own m n P J ∧
      ∀ b' b'' D ys s, b.StaysIn b' → J n b' ys → ys.length ≤ n → b'.StaysIn b'' → b''.IsList D ys.toArray → Fm s₀ b₀ b'' env.locals own (upd m y (.ref D)) s → Q .next s) E s)
    (hsw : swapsWith (.ListComp elt [⟨target, iter, [], 0⟩] scope pos) (some (.Name y py)) spos.line env = pure true)
    (hclos : closureFor scope env = pure cl) (hk : env.scope.kind = .function) (hy : env.kindOf y = some .local) (hcell : ∀ y ∈ scope.names, y.2 ≠ .cell) (hkind : scope.kind = .function) (hnames : ∀ x ∈ scope.names, x.2 = .local → scope.names.lookup x.1 = some .local)
    (ht : (∃ x p, target = .Name x p) ∨ ∃ elts k p, target = .Tuple elts k p) (hs : ∀ x, foldedSetIterable iter env x = pure x) :
    wpAny (model prog w) A (exec (.Assign [.Name y py] (.ListComp elt [⟨target, iter, [], 0⟩] scope pos) spos) env) Q E s := by
  rw [exec_Assign_Name_used _ _ _ _ hsw]
  refine wpAny_bind (wpAny_standAt (wpAny_bind ?_))
  show wpAny _ A (do let _ ← comprehension (.ListComp elt [⟨target, iter, [], 0⟩] scope pos) scope env _ (newList []) false (eval iter env) (some (assign (.Name y py) env))) _ _ s
  refine wpAny_bind (wpAny_mono (wpAny_comprehension_free (use := some (assign (.Name y py) env)) (Q := fun _ s' => Q .next s') rfl hs hclos hkind hnames
    (wpAny_mono h (fun x s₁ h₁ => ?_) fun _ _ e => e)) (fun _ s' hq => wpAny_pure (wpAny_pure hq)) fun _ _ e => e)
  obtain ⟨s₀, b₀, b, own, m, n, P, J, F, hn, h0, it, turn, done⟩ := h₁
  refine it _ _ fun I fp St s₂ it k hnew st => ?_
  obtain ⟨oI, hoI⟩ := it.live _ _ st
  have F₂ : Fm s₀ b₀ b env.locals (own ++ [(I, oI)]) m s₂ := (F.newOwn k hnew hoI).perm (List.perm_append_singleton (I, oI) own).symm
  refine lc_block (RR := fun acc C => compPost (model prog w) A E (some (assign (.Name y py) env)) (fun _ s' => Q .next s') acc C) it F₂ st hn hcell hkind (Jk b J) ⟨StaysIn.refl _, Nat.zero_le _, h0⟩ ?_ ?_ (fun _ _ _ x => x.2.1) ht
  · intro i v b' C D oL ys k m' ios s E hi hP hJ nL F
    refine wpAny_mono (turn i v b' C D oL ys k m' ios s E hi hP hJ.2.2 nL hJ.1 F) (fun _ s₂ h₂ => wpAny_mono h₂ (fun y s₃ h₃ => ?_) fun _ _ x => x) fun _ _ x => x
    obtain ⟨b'', m'', up, hJ', F'⟩ := h₃
    exact ⟨b'', m'', up, ⟨StaysIn.trans hJ.1 up, by rw [List.length_append]; exact Nat.succ_le_succ hJ.2.1, hJ'⟩, F'⟩
  · intro b' C oC D ys k m' s up hJ nC F
    show wpAny _ A (assign (.Name y py) env (.ref D)) _ _ _
    refine lc_assign_name F rfl hk hy fun s F => ⟨m', nC _ _ F.hd, fun h' hs' => ?_⟩
    obtain ⟨b'', up', F', hl⟩ := (F.updDrop hs'.extBut).freezeL
    exact done b' b'' D ys _ up hJ.2.2 hJ.2.1 up' hl F'
end
def HT {α : Type} (n : Nat) (lt : Nat → Nat → Bool) : KasT α → (α → Prop) → Prop
  | .ret a, Q => Q a
  | .ask i j k, Q => i < n ∧ j < n ∧ HT n lt (k (lt i j)) Q
theorem HT.bind {α β : Type} {n : Nat} {lt : Nat → Nat → Bool} {f : α → KasT β} {Q : β → Prop} : ∀ {t : KasT α}, HT n lt t (fun a => HT n lt (f a) Q) → HT n lt (t.bind f) Q
  | .ret _, h => h
  | .ask _ _ _, h => ⟨h.1, h.2.1, HT.bind h.2.2⟩
theorem HT.mono {α : Type} {n : Nat} {lt : Nat → Nat → Bool} {Q Q' : α → Prop} : ∀ {t : KasT α}, HT n lt t Q → (∀ a, Q a → Q' a) → HT n lt t Q'
  | .ret _, h, k => k _ h
  | .ask _ _ _, h, k => ⟨h.1, h.2.1, HT.mono h.2.2 k⟩
/-- a total order, perhaps with ties -/
structure Ord (lt : Nat → Nat → Bool) : Prop where
  asym : ∀ i j, lt i j = true → lt j i = false
  trans : ∀ i j k, lt j i = false → lt k j = false → lt k i = false
section
variable {n : Nat} {lt : Nat → Nat → Bool} {p : Array Nat}
def Okp (n : Nat) (p : Array Nat) : Prop := p.toList.Perm (List.range n)
abbrev pk (p : Array Nat) (i : Nat) : Nat := p.getD i 0
theorem Okp.size (h : Okp n p) : p.size = n := by have := h.length_eq; simpa using this
theorem Okp.bd (h : Okp n p) (h0 : 0 < n) (i : Nat) : pk p i < n := by
  by_cases hi : i < p.size
  · have : p[i] ∈ List.range n := h.mem_iff.mp (by simp)
    simp only [pk, Array.getD, hi, dite_true]
    simpa using this
  · simp only [pk, Array.getD, hi, dite_false]; exact h0
theorem Okp.rev (h : Okp n p) (i j : Nat) : Okp n (kas_rev p i j) := (Array.perm_iff_toList_perm.mp (mirror_perm p i j _)).trans h
theorem Okp.bub (h : Okp n p) (k d : Nat) : Okp n (bubble p k d) := (Array.perm_iff_toList_perm.mp (bubble_perm p k d)).trans h
theorem pk_eq {p q : Array Nat} {i j : Nat} (h : p[i]? = q[j]?) : pk p i = pk q j := by
  simp only [pk, Array.getD_eq_getD_getElem?, h]
theorem pk_rev {i j : Nat} (hj : j ≤ p.size) (k : Nat) : pk (kas_rev p i j) k = if i ≤ k ∧ k < j then pk p (i + j - 1 - k) else pk p k := by
  have e := getElem?_mirror_all (i := i) hj k
  unfold kas_rev
  by_cases h : i ≤ k ∧ k < j
  · rw [if_pos h] at e ⊢; exact pk_eq e
  · rw [if_neg h] at e ⊢; exact pk_eq e
theorem pk_bub {k d : Nat} (hs : k < p.size) (hd : d ≤ k) (x : Nat) : pk (bubble p k d) x = if x = k - d then pk p k else if k - d < x ∧ x ≤ k then pk p (x - 1) else pk p x := by
  have e := getElem?_bubble hs d hd x
  by_cases h1 : x = k - d
  · rw [if_pos h1] at e ⊢; exact pk_eq e
  · rw [if_neg h1] at e ⊢
    by_cases h2 : k - d < x ∧ x ≤ k
    · rw [if_pos h2] at e ⊢; exact pk_eq e
    · rw [if_neg h2] at e ⊢; exact pk_eq e
/-- a run that rises -/
def Up (lt : Nat → Nat → Bool) (p : Array Nat) (m : Nat) : Prop := ∀ i j, i ≤ j → j < m → lt (pk p j) (pk p i) = false
def Dn (lt : Nat → Nat → Bool) (p : Array Nat) (m : Nat) : Prop := ∀ i j, i ≤ j → j < m → lt (pk p i) (pk p j) = false
def Same (lt : Nat → Nat → Bool) (p : Array Nat) (a m : Nat) : Prop := ∀ i j, a ≤ i → i < m → a ≤ j → j < m → lt (pk p i) (pk p j) = false
theorem Ord.refl (O : Ord lt) (i : Nat) : lt i i = false := by
  cases h : lt i i
  · rfl
  · have := O.asym _ _ h; rw [h] at this; cases this
theorem up_one (O : Ord lt) : Up lt p 1 := by
  intro i j hij hj
  obtain rfl : i = j := by (first | lia | omega)
  exact O.refl _
theorem up_more (O : Ord lt) {m : Nat} (h : Up lt p m) (h1 : 1 ≤ m) (hl : lt (pk p m) (pk p (m - 1)) = false) : Up lt p (m + 1) := fun i j hij hj => by
  by_cases hjm : j < m
  · exact h i j hij hjm
  · obtain rfl : j = m := by (first | lia | omega)
    by_cases hi : i = j
    · subst hi; exact O.refl _
    · exact O.trans _ _ _ (h i (j - 1) (by (first | lia | omega)) (by (first | lia | omega))) hl
theorem dn_more (O : Ord lt) {m : Nat} (h : Dn lt p m) (h1 : 1 ≤ m) (hl : lt (pk p (m - 1)) (pk p m) = false) : Dn lt p (m + 1) := fun i j hij hj => by
  by_cases hjm : j < m
  · exact h i j hij hjm
  · obtain rfl : j = m := by (first | lia | omega)
    by_cases hi : i = j
    · subst hi; exact O.refl _
    · exact O.trans _ _ _ hl (h i (j - 1) (by (first | lia | omega)) (by (first | lia | omega)))
theorem asc_H (O : Ord lt) (hn : 0 < n) (hp : Okp n p) : ∀ (f a : Nat), Up lt p a → 1 ≤ a → a + f ≤ n → HT n lt (kas_asc p f a) (fun m => a ≤ m ∧ m ≤ a + f ∧ Up lt p m ∧ (m = a + f ∨ lt (pk p m) (pk p (m - 1)) = true))
  | 0, a, h, _, _ => ⟨Nat.le_refl _, Nat.le_refl _, h, .inl rfl⟩
  | f + 1, a, h, h1, h2 => by
    refine ⟨hp.bd hn _, hp.bd hn _, ?_⟩
    cases e : lt (p.getD a 0) (p.getD (a - 1) 0) with
    | true =>
      (try dsimp only); rw [if_pos rfl]
      exact ⟨Nat.le_refl _, by (first | lia | omega), h, .inr e⟩
    | false =>
      (try dsimp only); rw [if_neg Bool.false_ne_true]
      refine (asc_H O hn hp f (a + 1) (up_more O h h1 e) (by (first | lia | omega)) (by (first | lia | omega))).mono fun m hm => ?_
      exact ⟨by (first | lia | omega), by (first | lia | omega), hm.2.2.1, by rcases hm.2.2.2 with h | h; exact .inl (by (first | lia | omega)); exact .inr h⟩
theorem dn_rev {i m : Nat} (hp : Okp n p) (hm : m ≤ n) (h : Dn lt p m) (hs : Same lt p i m) : Dn lt (kas_rev p i m) m := fun x y hxy hy => by
  rw [pk_rev (by rw [hp.size]; exact hm), pk_rev (by rw [hp.size]; exact hm)]
  by_cases hx : i ≤ x ∧ x < m
  · rw [if_pos hx, if_pos ⟨by (first | lia | omega), hy⟩]
    exact hs _ _ (by (first | lia | omega)) (by (first | lia | omega)) (by (first | lia | omega)) (by (first | lia | omega))
  · rw [if_neg hx]
    by_cases hy' : i ≤ y ∧ y < m
    · rw [if_pos hy']; exact h _ _ (by (first | lia | omega)) (by (first | lia | omega))
    · rw [if_neg hy']; exact h _ _ hxy hy
theorem desc_H (O : Ord lt) (hn : 0 < n) : ∀ (f a q : Nat) (p : Array Nat), Okp n p → Dn lt p a → q + 1 ≤ a → Same lt p (a - (q + 1)) a → a + f ≤ n →
    HT n lt (kas_desc f p a q) (fun r => Okp n r.1 ∧ a ≤ r.2.1 ∧ r.2.1 ≤ a + f ∧ Dn lt r.1 r.2.1 ∧ r.2.2 + 1 ≤ r.2.1 ∧ Same lt r.1 (r.2.1 - (r.2.2 + 1)) r.2.1)
  | 0, a, q, p, hp, h, h1, hs, h2 => ⟨hp, Nat.le_refl _, Nat.le_refl _, h, h1, hs⟩
  | f + 1, a, q, p, hp, h, h1, hs, h2 => by
    refine ⟨hp.bd hn _, hp.bd hn _, ?_⟩
    cases e : lt (p.getD a 0) (p.getD (a - 1) 0) with
    | true =>
      (try dsimp only); rw [if_pos rfl]
      have one : ∀ p' : Array Nat, Same lt p' (a + 1 - (0 + 1)) (a + 1) := fun p' i j hi hi' hj hj' => by
        obtain rfl : i = j := by (first | lia | omega)
        exact O.refl _
      split
      · have hp' := hp.rev (a - (q + 1)) a
        have d := dn_rev hp (by (first | lia | omega)) h hs
        have d' : Dn lt (kas_rev p (a - (q + 1)) a) (a + 1) := by
          refine dn_more O d (by (first | lia | omega)) ?_
          rw [pk_rev (by rw [hp.size]; (first | lia | omega)), pk_rev (by rw [hp.size]; (first | lia | omega)), if_pos (by (first | lia | omega)), if_neg (by (first | lia | omega))]
          exact O.trans _ _ _ (O.asym _ _ e) (hs _ _ (by (first | lia | omega)) (by (first | lia | omega)) (by (first | lia | omega)) (by (first | lia | omega)))
        refine (desc_H O hn f (a + 1) 0 _ hp' d' (by (first | lia | omega)) (one _) (by (first | lia | omega))).mono fun r hr => ?_
        exact ⟨hr.1, by (first | lia | omega), by (first | lia | omega), hr.2.2.2⟩
      · refine (desc_H O hn f (a + 1) 0 _ hp (dn_more O h (by (first | lia | omega)) (O.asym _ _ e)) (by (first | lia | omega)) (one _) (by (first | lia | omega))).mono fun r hr => ?_
        exact ⟨hr.1, by (first | lia | omega), by (first | lia | omega), hr.2.2.2⟩
    | false =>
      (try dsimp only); rw [if_neg Bool.false_ne_true]
      refine ⟨hp.bd hn _, hp.bd hn _, ?_⟩
      cases e' : lt (p.getD (a - 1) 0) (p.getD a 0) with
      | true =>
        (try dsimp only); rw [if_pos rfl]
        exact ⟨hp, Nat.le_refl _, Nat.le_add_right _ _, h, h1, hs⟩
      | false =>
        (try dsimp only); rw [if_neg Bool.false_ne_true]
        refine (desc_H O hn f (a + 1) (q + 1) _ hp (dn_more O h (by (first | lia | omega)) e') (by (first | lia | omega)) ?_ (by (first | lia | omega))).mono fun r hr => ?_
        · intro i j hi hi' hj hj'
          by_cases h3 : i < a
          · by_cases h4 : j < a
            · exact hs _ _ (by (first | lia | omega)) h3 (by (first | lia | omega)) h4
            · obtain rfl : j = a := by (first | lia | omega)
              exact O.trans _ _ _ e' (hs _ _ (by (first | lia | omega)) (by (first | lia | omega)) (by (first | lia | omega)) (by (first | lia | omega)))
          · obtain rfl : i = a := by (first | lia | omega)
            by_cases h4 : j < i
            · exact O.trans _ _ _ (hs _ _ (by (first | lia | omega)) (by (first | lia | omega)) (by (first | lia | omega)) (by (first | lia | omega))) e
            · obtain rfl : j = i := by (first | lia | omega)
              exact O.refl _
        · exact ⟨hr.1, by (first | lia | omega), by (first | lia | omega), hr.2.2.2⟩
theorem tail3_H (O : Ord lt) (hn : 0 < n) (hp : Okp n p) {a : Nat} (h1 : 1 ≤ a) (h2 : a ≤ n) (h : Dn lt p a) : HT n lt (kas_tail3 a n p) (fun r => Okp n r.2 ∧ 1 ≤ r.1 ∧ r.1 ≤ n ∧ Up lt r.2 r.1) := by
  unfold kas_tail3
  refine HT.bind ((asc_H O hn (hp.rev 0 a) (n - a) a (fun x y hxy hy => ?_) h1 (by (first | lia | omega))).mono fun m hm => ?_)
  · rw [pk_rev (by rw [hp.size]; exact h2), pk_rev (by rw [hp.size]; exact h2), if_pos (by (first | lia | omega)), if_pos (by (first | lia | omega))]
    exact h _ _ (by (first | lia | omega)) (by (first | lia | omega))
  · exact ⟨hp.rev 0 a, by (first | lia | omega), by (first | lia | omega), hm.2.2.1⟩
theorem descPart_H (O : Ord lt) (hn : 0 < n) (hp : Okp n p) {a : Nat} (h1 : 1 ≤ a) (h2 : a + 1 ≤ n) (h : Dn lt p (a + 1)) : HT n lt (kas_descPart a n p) (fun r => Okp n r.2 ∧ 1 ≤ r.1 ∧ r.1 ≤ n ∧ Up lt r.2 r.1) := by
  unfold kas_descPart
  refine HT.bind ((desc_H O hn (n - (a + 1)) (a + 1) 0 p hp h (by (first | lia | omega)) (fun i j hi hi' hj hj' => ?_) (by (first | lia | omega))).mono fun r hr => ?_)
  · obtain rfl : i = j := by (first | lia | omega)
    exact O.refl _
  · obtain ⟨h3, h4, h5, h6, h7, h8⟩ := hr
    split
    · exact tail3_H O hn (h3.rev _ _) (by (first | lia | omega)) (by (first | lia | omega)) (dn_rev h3 (by (first | lia | omega)) h6 h8)
    · exact tail3_H O hn h3 (by (first | lia | omega)) (by (first | lia | omega)) h6
theorem count_H (O : Ord lt) (hn : 0 < n) (hp : Okp n p) : HT n lt (kas_count n p) (fun r => Okp n r.2 ∧ 1 ≤ r.1 ∧ r.1 ≤ n ∧ Up lt r.2 r.1) := by
  unfold kas_count
  refine HT.bind ((asc_H O hn hp (n - 1) 1 (up_one O) (Nat.le_refl _) (by (first | lia | omega))).mono fun m hm => ?_)
  obtain ⟨h1, h2, h3, h4⟩ := hm
  split
  · exact ⟨hp, h1, by (first | lia | omega), h3⟩
  · rename_i hne
    have hne : m ≠ n := by simpa using hne
    have hl : lt (pk p m) (pk p (m - 1)) = true := by rcases h4 with h | h; (first | lia | omega); exact h
    split
    · refine ⟨hp.bd hn _, hp.bd hn _, ?_⟩
      cases e : lt (p.getD 0 0) (p.getD (m - 1) 0) with
      | true => (try dsimp only); rw [if_pos rfl]; exact ⟨hp, h1, by (first | lia | omega), h3⟩
      | false =>
        (try dsimp only); rw [if_neg Bool.false_ne_true]
        have same : ∀ i j, i < m → j < m → lt (pk p i) (pk p j) = false := fun i j hi hj => by
          refine O.trans _ (pk p (m - 1)) _ (h3 j (m - 1) (by (first | lia | omega)) (by (first | lia | omega))) ?_
          exact O.trans _ _ _ e (h3 0 i (by (first | lia | omega)) hi)
        refine descPart_H O hn (hp.rev 0 m) h1 (by (first | lia | omega)) fun x y hxy hy => ?_
        rw [pk_rev (by rw [hp.size]; (first | lia | omega)), pk_rev (by rw [hp.size]; (first | lia | omega))]
        by_cases hym : y < m
        · rw [if_pos (by (first | lia | omega)), if_pos (by (first | lia | omega))]
          exact same _ _ (by (first | lia | omega)) (by (first | lia | omega))
        · obtain rfl : y = m := by (first | lia | omega)
          rw [if_neg (by (first | lia | omega) : ¬ (0 ≤ y ∧ y < y))]
          by_cases hxm : x < y
          · rw [if_pos (by (first | lia | omega))]
            exact O.trans _ _ _ (O.asym _ _ hl) (same _ _ (by (first | lia | omega)) (by (first | lia | omega)))
          · obtain rfl : x = y := by (first | lia | omega)
            rw [if_neg (by (first | lia | omega))]
            exact O.refl _
    · obtain rfl : m = 1 := by (first | lia | omega)
      refine descPart_H O hn hp h1 (by (first | lia | omega)) (dn_more O (fun i j hij hj => ?_) (by (first | lia | omega)) (O.asym _ _ hl))
      obtain rfl : i = j := by (first | lia | omega)
      exact O.refl _
theorem place_H (O : Ord lt) (hn : 0 < n) (hp : Okp n p) {k : Nat} (hu : Up lt p k) : ∀ (f l r : Nat), l ≤ r → r ≤ k → r ≤ l + f → (∀ i, i < l → lt (pk p k) (pk p i) = false) → (∀ i, r ≤ i → i < k → lt (pk p i) (pk p k) = false) →
    HT n lt (kas_place p k f l r) (fun x => x ≤ k ∧ (∀ i, i < x → lt (pk p k) (pk p i) = false) ∧ (∀ i, x ≤ i → i < k → lt (pk p i) (pk p k) = false))
  | 0, l, r, h1, h2, h3, h4, h5 => ⟨by (first | lia | omega), h4, fun i hi hk => h5 i (by (first | lia | omega)) hk⟩
  | f + 1, l, r, h1, h2, h3, h4, h5 => by
    unfold kas_place
    split
    · exact ⟨by (first | lia | omega), h4, fun i hi hk => h5 i (by (first | lia | omega)) hk⟩
    · refine ⟨hp.bd hn _, hp.bd hn _, ?_⟩
      cases e : lt (p.getD k 0) (p.getD ((l + r) / 2) 0) with
      | true =>
        (try dsimp only); rw [if_pos rfl]
        refine place_H O hn hp hu f l ((l + r) / 2) (by (first | lia | omega)) (by (first | lia | omega)) (by (first | lia | omega)) h4 fun i hi hk => ?_
        exact O.trans _ _ _ (O.asym _ _ e) (hu _ _ hi hk)
      | false =>
        (try dsimp only); rw [if_neg Bool.false_ne_true]
        refine place_H O hn hp hu f ((l + r) / 2 + 1) r (by (first | lia | omega)) h2 (by (first | lia | omega)) (fun i hi => ?_) h5
        exact O.trans _ _ _ (hu i ((l + r) / 2) (by (first | lia | omega)) (by (first | lia | omega))) e
theorem bin_H (O : Ord lt) (hn : 0 < n) : ∀ (f k : Nat) (p : Array Nat), Okp n p → Up lt p k → k + f = n → HT n lt (kas_bin f p k) (fun r => Okp n r ∧ Up lt r n)
  | 0, k, p, hp, hu, hk => ⟨hp, by rw [← hk]; exact hu⟩
  | f + 1, k, p, hp, hu, hk => by
    refine HT.bind ((place_H O hn hp hu k 0 k (Nat.zero_le _) (Nat.le_refl _) (by (first | lia | omega)) (fun i hi => absurd hi (Nat.not_lt_zero _)) (fun i hi hk => by (first | lia | omega))).mono fun l hl => ?_)
    obtain ⟨h1, h2, h3⟩ := hl
    refine bin_H O hn f (k + 1) _ (hp.bub k (k - l)) (fun x y hxy hy => ?_) (by (first | lia | omega))
    rw [pk_bub (by rw [hp.size]; (first | lia | omega)) (by (first | lia | omega)), pk_bub (by rw [hp.size]; (first | lia | omega)) (by (first | lia | omega))]
    rw [show k - (k - l) = l from by (first | lia | omega)]
    by_cases hx : x = l
    · rw [if_pos hx]
      by_cases hy1 : y = l
      · rw [if_pos hy1]; exact O.refl _
      · rw [if_neg hy1, if_pos (by (first | lia | omega))]; exact h3 _ (by (first | lia | omega)) (by (first | lia | omega))
    · rw [if_neg hx]
      by_cases hx2 : l < x ∧ x ≤ k
      · rw [if_pos hx2, if_neg (by (first | lia | omega)), if_pos (by (first | lia | omega))]; exact hu _ _ (by (first | lia | omega)) (by (first | lia | omega))
      · rw [if_neg hx2]
        by_cases hy1 : y = l
        · rw [if_pos hy1]; exact h2 _ (by (first | lia | omega))
        · rw [if_neg hy1]
          by_cases hy2 : l < y ∧ y ≤ k
          · rw [if_pos hy2]; exact hu _ _ (by (first | lia | omega)) (by (first | lia | omega))
          · rw [if_neg hy2]; exact hu _ _ hxy (by (first | lia | omega))
theorem sort_H (O : Ord lt) (h2 : 2 ≤ n) : HT n lt (kas_sort n) (fun r => Okp n r ∧ Up lt r n) := by
  unfold kas_sort
  refine HT.bind ((count_H O (by (first | lia | omega)) (show Okp n (List.toArray (List.range n)) from by unfold Okp; simp)).mono fun r hr => ?_)
  obtain ⟨h3, h4, h5, h6⟩ := hr
  split
  · rw [show max r.1 1 = r.1 from by (first | lia | omega)]
    exact bin_H O (by (first | lia | omega)) _ _ _ h3 h6 (by (first | lia | omega))
  · exact ⟨h3, by rw [show n = r.1 from by (first | lia | omega)]; exact h6⟩
end
theorem HT.wp {α : Type} {n : Nat} {lt : Nat → Nat → Bool} {cmp : Nat → Nat → (Bool → Shared → Prop) → Shared → Prop} {I : Shared → Prop} (hc : ∀ i j C s, i < n → j < n → I s → (∀ s', I s' → C (lt i j) s') → cmp i j C s) {Q : α → Prop} {R : α → Shared → Prop} (hR : ∀ a s', Q a → I s' → R a s') :
    ∀ {t : KasT α} {s : Shared}, HT n lt t Q → I s → t.kasWp cmp R s
  | .ret _, _, h, hi => hR _ _ h hi
  | .ask i j k, s, h, hi => hc i j _ s h.1 h.2.1 hi fun s' hi' => HT.wp hc hR h.2.2 hi'
def lexLt : List Int → List Int → Bool
  | [], [] => false
  | [], _ :: _ => true
  | _ :: _, [] => false
  | x :: xs, y :: ys => if x = y then lexLt xs ys else decide (x < y)
theorem lexLt_asym : ∀ {a b : List Int}, lexLt a b = true → lexLt b a = false
  | [], [], _ => rfl
  | [], _ :: _, _ => rfl
  | _ :: _, [], h => by simp [lexLt] at h
  | x :: xs, y :: ys, h => by
    unfold lexLt at h ⊢
    by_cases e : x = y
    · subst e; simp only [if_true] at h ⊢; exact lexLt_asym h
    · rw [if_neg e] at h; rw [if_neg (Ne.symm e)]
      have := of_decide_eq_true h
      exact decide_eq_false (by omega)
theorem lexLt_trans : ∀ {a b c : List Int}, lexLt b a = false → lexLt c b = false → lexLt c a = false
  | [], _, [], _, _ => rfl
  | [], [], _ :: _, _, _ => rfl
  | [], _ :: _, _ :: _, _, _ => rfl
  | _ :: _, [], _, h, _ => by simp [lexLt] at h
  | _ :: _, _ :: _, [], _, h => by simp [lexLt] at h
  | x :: xs, y :: ys, z :: zs, h1, h2 => by
    unfold lexLt at h1 h2 ⊢
    by_cases e1 : y = x
    · subst e1
      rw [if_pos rfl] at h1
      by_cases e2 : z = y
      · subst e2; rw [if_pos rfl] at h2 ⊢; exact lexLt_trans h1 h2
      · rw [if_neg e2] at h2 ⊢; exact h2
    · rw [if_neg e1] at h1
      have h1 := of_decide_eq_false h1
      by_cases e2 : z = y
      · subst e2; rw [if_neg e1]; exact decide_eq_false h1
      · rw [if_neg e2] at h2
        have h2 := of_decide_eq_false h2
        rw [if_neg (by omega)]; exact decide_eq_false (by omega)
def TupV (b : Heap) (v : Value) (x : List Int) : Prop := ∃ T, v = .ref T ∧ TupI b T x
/-- rising, and the same things -/
def SortOf (xs ys : List (List Int)) : Prop := ys.Perm xs ∧ ys.Pairwise fun a c => lexLt c a = false
section
variable {prog : Program} {w : World} {A : Around} {E : Value → Shared → Prop} {s : Shared} {env : Env} {s₀ : Shared} {b₀ b b' : Heap} {L : Addr} {own : List (Addr × Obj)} {m : Str → Option Value}
theorem katlex_ints {fin : Bool} {Q : Bool → Shared → Prop} : ∀ {us vs : List Value} {xs ys : List Int} {i : Nat} {c : Bool}, IntsAre us xs → IntsAre vs ys → (fin = decide (us.length < vs.length)) → Q (lexLt xs ys) s → KatLex prog w A c fin Q (us.zip vs) i s
  | _, _, _, _, _, _, .nil, .nil, hf, h => by
    rw [List.zip_nil_left]; refine kat_nil ?_; rw [hf]; exact h
  | _, _, _, _, _, _, .nil, .cons n t r, hf, h => by
    rw [List.zip_nil_left]; refine kat_nil ?_; rw [hf]; simpa [lexLt] using h
  | _, _, _, _, _, _, .cons n t r, .nil, hf, h => by
    rw [List.zip_nil_right]; refine kat_nil ?_; rw [hf]; simpa [lexLt] using h
  | _, _, _, _, i, c, .cons n t r, .cons n' t' r', hf, h => by
    rw [List.zip_cons_cons]
    refine kat_cons (MeetsSeq.EqGives.int n n' t t' prog w A _ s _ ?_)
    have h : Q (if n = n' then lexLt _ _ else decide (n < n')) s := h
    by_cases e : n = n'
    · rw [if_pos e] at h
      rw [show (n == n') = true from by simp [e]]
      exact kat_yes (katlex_ints r r' (by rw [hf]; simp) h)
    · rw [if_neg e] at h
      rw [show (n == n') = false from by simp [e]]
      refine kat_no ?_
      cases c && i == 0 with
      | true => exact oneLt_int h
      | false => exact kat_one _ _ (PySem.P.lt_int h)
theorem kattups_of {b : Heap} : ∀ {vs : List Value} {xs : List (List Int)}, Ev (TupV b) vs xs → (∀ x ∈ xs, x ≠ []) → ∃ fs, fs.length = vs.length ∧ KatTups b vs fs ∧ ∀ f ∈ fs, ∃ n t, f = .int n t
  | [], _, _, _ => ⟨[], rfl, .nil, fun _ h => nomatch h⟩
  | v :: vs, [], h, _ => by have := h.1; simp at this
  | v :: vs, x :: xs, h, hne => by
    obtain ⟨fs, hl, ht, hf⟩ := kattups_of h.tail fun x hx => hne x (List.mem_cons_of_mem _ hx)
    obtain ⟨T, rfl, us, ⟨o, ho, hc, n, hd⟩, hi⟩ := h.head
    cases hi with
    | nil => exact absurd rfl (hne _ List.mem_cons_self)
    | cons k t r =>
      refine ⟨.int k t :: fs, by simp [hl], .cons ho hc hd (by simp) ht, fun f h => ?_⟩
      rcases List.mem_cons.mp h with rfl | h
      · exact ⟨k, t, rfl⟩
      · exact hf f h
theorem looks_int {M : Model} {h : Heap} {n : Int} {t : Tok} : Looks M h (typeOf (.int n t)) (.type "int") := Looks.of_pure (by kernel_rfl)
theorem perm_map_getD {α : Type} {p : List Nat} {xs : List α} {d : α} (h : p.Perm (List.range xs.length)) : (p.map fun i => xs.getD i d).Perm xs := by
  have h1 := h.map fun i => xs.getD i d
  have h2 : (List.range xs.length).map (fun i => xs.getD i d) = xs := by
    apply List.ext_getElem
    · simp
    · intro i h1 h2
      simp at h1
      simp [h1]
  rw [h2] at h1; exact h1
theorem sort_tups2 {l : Addr} {xs : List (List Int)} {Q : Value → Shared → Prop} (F : Fm s₀ b₀ b L own m s) (hl : Ls (TupV b) b l xs) (hk : ∀ x ∈ xs, x ≠ []) (h2 : 2 ≤ xs.length) (h64 : xs.length < 64)
    (h : ∀ D ys b' s', b.StaysIn b' → Fm s₀ b₀ b' L own m s' → Ls (TupV b') b' D ys → SortOf xs ys → Q (.ref D) s') : wpAny (model prog w) A (call (.builtin "sorted") [.ref l]) Q E s := by
  obtain ⟨vs, hl, ev⟩ := hl
  have hlen := ev.len
  obtain ⟨Fh, N⟩ := F.toFr
  refine kat_sorted Fh N (IsList_keeps hl F.le) (by omega) (by omega) fun D e1 h' F' N' hD => ?_
  have kp := fr_kept F' fun p hp => N' p (List.mem_cons_of_mem _ hp)
  obtain ⟨n1, n2⟩ := fr_new N' hD
  have G := F.setNew (s' := { s with heap := h' }) ⟨rfl, rfl, rfl⟩ F'.ns kp n1 n2
  have evh : Ev (TupV h') vs xs := ev.mono fun v x hv => by
    obtain ⟨T, e, t⟩ := hv; exact ⟨T, e, t.keeps G.le⟩
  obtain ⟨fs, f1, f2, f3⟩ := kattups_of evh hk
  refine kat_kind (T := .type "int") f2 (by omega) (fun v hv => ?_) (by decide) ?_
  · obtain ⟨n, t, rfl⟩ := f3 v hv; exact looks_int
  refine HT.wp (n := vs.length) (lt := fun i j => lexLt (xs.getD i []) (xs.getD j [])) (I := fun s' => s' = { s with heap := h' }) (Q := fun r => Okp vs.length r ∧ Up (fun i j => lexLt (xs.getD i []) (xs.getD j [])) r vs.length) (fun i j C s' hi hj hs hC => ?_) (fun p s' hp hs => ?_) (sort_H ⟨fun i j => lexLt_asym, fun i j k => lexLt_trans⟩ (by omega)) rfl
  · subst hs
    show wpAny _ _ (keyLt' _ (vs.getD i Value.none) (vs.getD j Value.none)) _ _ _
    have get : ∀ i, i < vs.length → ∃ T us, vs.getD i Value.none = .ref T ∧ h'.IsTuple T us.toArray ∧ IntsAre us (xs.getD i []) := fun i hi => by
      have hx : i < xs.length := by omega
      obtain ⟨T, e, us, t, ia⟩ := evh.2 i _ _ (List.getElem?_eq_getElem hi) (List.getElem?_eq_getElem hx)
      exact ⟨T, us, by simpa [hi] using e, t, by simpa [hx] using ia⟩
    obtain ⟨T, us, e1, ⟨o1, g1, c1, k1, d1⟩, i1⟩ := get i hi
    obtain ⟨T', us', e2, ⟨o2, g2, c2, k2, d2⟩, i2⟩ := get j hj
    rw [e1, e2]
    exact kat_lt g1 d1 g2 d2 (katlex_ints i1 i2 (by simp) (hC _ rfl))
  · subst hs
    obtain ⟨hp, hu⟩ := hp
    refine KasFin.intro F' N' (g := fun o => (D, o) :: above s.heap L) (.head fun p hp => Nat.ne_of_lt (hD p hp)) fun h'' c F'' N'' => ?_
    have kp := fr_kept F'' fun p hp => N'' p (List.mem_cons_of_mem _ hp)
    have G := F.setNew (s' := { s with heap := h'' }) ⟨rfl, rfl, rfl⟩ F''.ns kp n1 (N'' _ List.mem_cons_self).1
    obtain ⟨b', up, G, hl'⟩ := Fm.freezeL G
    refine h D (p.toList.map fun i => xs.getD i []) b' _ up G ⟨_, hl', ?_⟩ ⟨perm_map_getD (by rw [← hlen]; exact hp), ?_⟩
    · refine ⟨by simp, fun i v x hv hx => ?_⟩
      rw [List.getElem?_map] at hv hx
      cases e : p.toList[i]? with
      | none => rw [e] at hv; cases hv
      | some k =>
        rw [e] at hv hx
        have hk : k < vs.length := by
          have := hp.mem_iff.mp (List.mem_of_getElem? e); simpa using this
        have hv : some (vs.getD k Value.none) = some v := hv
        have hx : some (xs.getD k []) = some x := hx
        obtain ⟨T, e1, t⟩ := ev.2 k _ _ (List.getElem?_eq_getElem hk) (List.getElem?_eq_getElem (by omega))
        refine ⟨T, ?_, ?_⟩
        · rw [← e1]; have := Option.some.inj hv; rw [← this]; simp [hk]
        · have hx := Option.some.inj hx
          have : xs[k]'(by omega) = x := by rw [← hx]; have : k < xs.length := by omega
                                            simp [this]
          rw [← this]; exact t.keeps up
    · rw [List.pairwise_iff_getElem]
      intro i j hi hj hij
      simp only [List.length_map, Array.length_toList] at hi hj
      have := hu i j (by omega) (by rw [← hp.size]; exact hj)
      simp only [pk, Array.getD, hi, hj, dite_true] at this
      simpa using this
theorem F_upd {r : Addr} {o o' : Obj} {f : Obj → Obj} (F : Fm s₀ b₀ b L ((r, o) :: own) m s) (h : (s.heap.update r f).get? r = some o') : Fm s₀ b₀ b L ((r, o') :: own) m { s with heap := s.heap.update r f } := F.upd (Heap.SameBut.update ..) h
theorem sort_small {l : Addr} {vs : List Value} {Q : Value → Shared → Prop} (F : Fm s₀ b₀ b L own m s) (hl : b.IsList l vs.toArray) (h2 : vs.length < 2)
    (h : ∀ D b' s', b.StaysIn b' → Fm s₀ b₀ b' L own m s' → b'.IsList D vs.toArray → Q (.ref D) s') : wpAny (model prog w) A (call (.builtin "sorted") [.ref l]) Q E s := by
  refine Calls.call_function_entry kind_sorted plain_sorted entry_sorted (args_sorted1 _) ?_
  unfold Builtin.«sorted»
  refine wpAny_bind (m := checkCount "sorted" 1 1 _) (wpAny_pure ?_)
  refine wpAny_bind (collect_list (IsList_keeps hl F.le) ?_ (by rw [sizeLine_eq]; omega))
  have F₁ := F_upd (f := Obj.mapSeq (· ++ vs.toArray)) (F.pushOwn (seqObj "list" #[] 0) rfl) (get?_update_seq (Heap.get?_push_size _ rfl) _)
  have F₁ := F₁.drop
  generalize hs₁ : ({ s with heap := (s.heap.push (seqObj "list" #[] 0)).update s.heap.objs.size (Obj.mapSeq (· ++ vs.toArray)) } : Shared) = s₁ at *
  refine wpAny_bind (new_listO F₁ (by omega) fun D s₂ F₂ => ?_)
  refine wpAny_bind (wpAny_holding (wpAny_call_entry slot_list_sort ⟨_, F₂.hd, rfl⟩ entry_list_sort ?_ (args_list_sort _)))
  rw [list_sort_plain]
  refine wpAny_bind (listItems_at F₂.hd rfl ?_)
  have F₃ := F_upd (f := Obj.mapSeq fun _ => (#[] : Array Value)) F₂ (get?_update_seq F₂.hd _)
  refine wpAny_bind (listUpdate_at F₂.hd rfl ?_ (by rw [List.size_toArray, sizeLine_eq]; omega) (Nat.zero_le _))
  generalize hs₃ : ({ s₂ with heap := s₂.heap.update D (Obj.mapSeq fun _ => (#[] : Array Value)) } : Shared) = s₃ at *
  refine wpAny_bind (seqEpoch_at F₃.hd rfl ?_)
  refine wpAny_bind (new_tuple F₃ (by rw [sizeLine_eq]; simp; omega) fun T b₁ s₄ up₁ F₄ hT => ?_)
  refine wpAny_bind (new_listO F₄ (Nat.zero_le _) fun K s₅ F₅ => ?_)
  have F₅ := F₅.drop
  refine wpAny_holding ?_
  dsimp only
  have hz : vs.toArray.size < 2 := by simpa using h2
  rw [if_pos hz, if_pos hz]
  refine wpAny_bind (wpAny_pure ?_)
  rw [StateT.run_pure]
  refine wpAny_bind (wpAny_pure ?_)
  dsimp only
  refine wpAny_bind (seqEpoch_at F₅.hd rfl ?_)
  have ho : (arrOf (SortSt.mk' general' (vs.toArray.zip vs.toArray) #[] 7 none)).map (·.2) = vs.toArray := by
    show (vs.toArray.zip vs.toArray).map (·.2) = _
    match vs, h2 with
    | [], _ => simp
    | [v], _ => simp
    | _ :: _ :: _, h2 => exact absurd h2 (by simp)
  rw [ho]
  refine wpAny_bind (listUpdate_at F₅.hd rfl ?_ (Nat.zero_le _) (by rw [List.size_toArray, sizeLine_eq]; omega))
  have F₆ := F_upd (f := Obj.mapSeq fun _ => vs.toArray) F₅ (get?_update_seq F₅.hd _)
  generalize hs₆ : ({ s₅ with heap := s₅.heap.update D (Obj.mapSeq fun _ => vs.toArray) } : Shared) = s₆ at *
  obtain ⟨b₂, up₂, F₇, hl'⟩ := Fm.freezeL F₆
  simp only [bne_self_eq_false, Bool.false_eq_true, if_false]
  refine wpAny_pure ⟨_, rfl, wpAny_pure ⟨_, rfl, h D b₂ s₆ (StaysIn.trans up₁ up₂) F₇ hl'⟩⟩
theorem sort_tups {l : Addr} {xs : List (List Int)} {Q : Value → Shared → Prop} (F : Fm s₀ b₀ b L own m s) (hl : Ls (TupV b) b l xs) (hk : ∀ x ∈ xs, x ≠ []) (h64 : xs.length < 64)
    (h : ∀ D ys b' s', b.StaysIn b' → Fm s₀ b₀ b' L own m s' → Ls (TupV b') b' D ys → SortOf xs ys → Q (.ref D) s') : wpAny (model prog w) A (call (.builtin "sorted") [.ref l]) Q E s := by
  by_cases h2 : 2 ≤ xs.length
  · exact sort_tups2 F hl hk h2 h64 h
  · obtain ⟨vs, hl, ev⟩ := hl
    refine sort_small F hl (by rw [ev.len]; omega) fun D b' s' up F hl => h D xs b' s' up F ⟨vs, hl, ev.mono fun v x hv => ?_⟩ ⟨List.Perm.refl _, ?_⟩
    · obtain ⟨T, e, t⟩ := hv; exact ⟨T, e, t.keeps up⟩
    · match xs, h2 with
      | [], _ => exact List.Pairwise.nil
      | [x], _ => exact List.pairwise_singleton _ _
      | _ :: _ :: _, h2 => exact absurd (by simp) h2
end
section
variable {prog : Program} {w : World} {A : Around} {E : Value → Shared → Prop} {s : Shared} {env : Env} {s₀ : Shared} {b₀ b b' : Heap} {L : Addr} {own : List (Addr × Obj)} {m : Str → Option Value}
def RangeK (b : Heap) (r : Addr) (a e c : Int) : Prop := ∃ t u v, IsRange b r a e c t u v
theorem Fm.pushKnow (F : Fm s₀ b₀ b L own m s) (o : Obj) (n : Nat) (hf : o.isFreed = false) : ∃ b', b.StaysIn b' ∧ Fm s₀ b₀ b' L own m { s with heap := s.heap.push o, toks := n } ∧ b'.get? s.heap.objs.size = some o := by
  have k : Keeps s { s with heap := s.heap.push o, toks := n } := Keeps.push o
  have X := Ex.know (a := s.heap.objs.size) F.le k none_size
  exact ⟨_, X.up, F.call X, only_iff.mpr ⟨.inr rfl, Heap.get?_push_size _ hf⟩⟩
theorem range3 {a e c : Int} {t u v : Tok} {Q : Value → Shared → Prop} (F : Fm s₀ b₀ b L own m s) (hc : c ≠ 0) (hs : c.natAbs < 1073741824) (h : ∀ r b' s', b.StaysIn b' → Fm s₀ b₀ b' L own m s' → RangeK b' r a e c → Q (.ref r) s') :
    wpAny (model prog w) A (call (.type "range") [.int a t, .int e u, .int c v]) Q E s := by
  obtain ⟨b', up, F', g⟩ := F.pushKnow { cls := .type "range", data := .fields #[.int a t, .int e u, .int c v] } s.toks rfl
  exact call_range_3 hc (h _ b' _ up F' ⟨_, _, _, g⟩) (Or.inl (PyProof.noPylong_small hs))
theorem iter_range {r : Addr} {a e c : Int} {n : Nat} (hh : A.handled = none) (le : b.StaysIn s.heap) (hr : RangeK b r a e c) (hsm : Builtin.Range.small a e c = true) (hn : Builtin.Range.rangeSize a e c = n) :
    IterOf prog w A (.ref r) b n (fun i v => ∃ t, v = .int (a + i * c) t) s := by
  intro Q E h
  obtain ⟨t, u, v, hr⟩ := hr
  refine wpAny_pyIter_range (le _ _ hr) hsm (h _ [s.heap.objs.size] (fun i h => IsRangeIter h s.heap.objs.size (a + (i : Nat) * c) ((n : Int) - (i : Nat)) c) _ ⟨Walks.range hh _ a c n, fun x hx hI => absurd (List.mem_singleton.mp hx) hI, fun i h st => ⟨_, st⟩, fun i elts k pos v s₁ Q E st hq => ?_⟩ (Keeps.mk' (fun _ _ e => Heap.get?_push_of_some _ e) ⟨rfl, rfl, rfl⟩) none_size ?_)
  · unfold letOwnedTupleGo
    cases v with
    | ref T => exact wpAny_bind (wpAny_load st (wpAny_pure hq))
    | _ => exact wpAny_pure hq
  · rw [hn]
    have e1 : a + ((0 : Nat) : Int) * c = a := by simp
    have e2 : (n : Int) - ((0 : Nat) : Int) = n := by simp
    rw [e1, e2]
    exact Heap.get?_push_size _ rfl
theorem item_l {value slice : PySem.Expr} {l : Addr} {vs : List Value} {i : Int} {u : Tok} {v : Value} {Q : Value → Shared → Prop} (F : Fm s₀ b₀ b L own m s) (hl : b.IsList l vs.toArray) (h0 : 0 ≤ i) (h1 : i < 2 ^ 62) (hv : vs[i.toNat]? = some v)
    (hs : subscripted slice false (.ref l) (.int i u) = operate [.ref l, .int i u] (getItem (.ref l) (.int i u))) (h : Q v s) : wpAny (model prog w) A (subscriptTail value slice (.ref l) (.int i u)) Q E s :=
  tail_any (IsList_keeps hl F.le).typeIs list_getitem_lookup (wpAny_getItem_list (IsList_keeps hl F.le) h0 (by (first | lia | omega)) (by simpa using hv) h) hs
theorem t_str {x : List Nat} {t : Tok} {Q : Bool → Shared → Prop} (F : Fm s₀ b₀ b L own m s) (hz : x.length ≤ 1000000) (h : ∀ s', Fm s₀ b₀ b L own m s' → Q (!x.isEmpty) s') : wpAny (model prog w) A (truthy (.str (S x) t)) Q E s := by
  refine PySem.P.truthy_str (by rw [S_len]; (first | lia | omega)) ?_
  rw [S_len, show ((x.length : Int) != 0) = !x.isEmpty from by cases x <;> simp; (first | lia | omega)]
  exact h _ F.toks
theorem e_str {x y : List Nat} {t u : Tok} {Q : Value → Shared → Prop} (h : Q (.bool (decide (x = y))) s) : wpAny (model prog w) A (compareOp .Eq (.str (S x) t) (.str (S y) u)) Q E s := by
  refine PySem.P.eq_str ?_
  rw [show ((S x).cps.toList == (S y).cps.toList) = decide (x = y) from by by_cases e : x = y <;> simp [S, e]]; exact h
end
section
open PySem.SeqAt PySem.AutoSeq1 PySem.MeetsSeq PySem.MeetsSeq2 PySem.MeetsSeq3 PySem.SeqRoads2
end

section
open PySem.SeqAt PySem.AutoSeq1 PySem.MeetsSeq PySem.MeetsSeq2 PySem.MeetsSeq3 PySem.SeqRoads2
end

section
open PySem.SeqAt PySem.AutoSeq1 PySem.MeetsSeq PySem.MeetsSeq2 PySem.MeetsSeq3 PySem.SeqRoads2
end

section
open PySem.SeqAt PySem.AutoSeq1 PySem.MeetsSeq PySem.MeetsSeq2 PySem.MeetsSeq3 PySem.SeqRoads2
end

section
open PySem.SeqAt
end
section
variable {α : Type} [DecidableEq α] {f : α → α → Bool} {d : α}
end
section
open PySem.SeqAt
variable {prog : Program} {w : World} {A : Around} {E : Value → Shared → Prop} {s : Shared} {env : Env} {s₀ : Shared} {b₀ b b' : Heap} {L : Addr} {own : List (Addr × Obj)} {m : Str → Option Value}
theorem Rm.line64 {A : Around} {n : Nat} (R : Rm A n) : A.units + 64 < cLine := by have := R.units; unfold cLine; omega
theorem eq_ints {l k : Addr} {xs ys : List Int} {n : Nat} {Q : Value → Shared → Prop} (R : Rm A n) (F : Fm s₀ b₀ b L own m s) (hl : LI b l xs) (hk : LI b k ys) (h : Q (.bool (decide (xs = ys))) s) : wpAny (model prog w) A (compareOp .Eq (.ref l) (.ref k)) Q E s := by
  obtain ⟨vs, hl, ev⟩ := hl
  obtain ⟨us, hk, eu⟩ := hk
  exact ke_eq_ints (IsList_keeps hl F.le) (IsList_keeps hk F.le) ev.ints eu.ints R.line64 h
end
section
variable {prog : Program} {w : World} {A : Around} {E : Value → Shared → Prop} {s : Shared} {env : Env} {s₀ : Shared} {b₀ b b' : Heap} {L : Addr} {own : List (Addr × Obj)} {m : Str → Option Value}
theorem bytes_ints {l : Addr} {ns : List Int} {Q : Value → Shared → Prop} (hh : A.handled = none) (F : Fm s₀ b₀ b L own m s) (hl : LI b l ns) (hr : ∀ n ∈ ns, 0 ≤ n ∧ n < 256) (hz : ns.length ≤ 1000)
    (h : ∀ t s', Fm s₀ b₀ b L own m s' → Q (.bytes (PySem.byteArr ns) t) s') : wpAny (model prog w) A (call (.type "bytes") [.ref l]) Q E s := by
  obtain ⟨vs, hl, ev⟩ := hl
  exact call_bytes_ints (IsList_keeps hl F.le) ev.ints hr (by rw [ev.len, sizeLine_eq]; omega) hh fun h' t k hk => h t _ (F.keeps (Keeps.mk' hk ⟨rfl, rfl, rfl⟩))
theorem signAt {l : List Nat} {i : Nat} {v : Value} (h : SignAt (S l) i v) : ∃ c t, l[i]? = some c ∧ v = .str (S [c]) t := by
  obtain ⟨c, u, h1, h2⟩ := h
  exact ⟨c, u, by simpa [S] using h1, h2⟩
end
namespace Pl
abbrev Pr := Int × Int
def ltR (x y : Pr) : Prop := x.1 < y.1 ∨ (x.1 = y.1 ∧ x.2 < y.2)
def Up (st : List Pr) : Prop := st.Pairwise ltR
def cnt (w : List Nat) (c : Nat) : Int := ((w.countP (fun d => decide (d ≤ c)) : Nat) : Int)
/-- from left to right, f of each letter and the letters up to it on its left -/
def wk {α : Type} (f : Nat → Int → List α) (pre : List Nat) : List Nat → List α
  | [] => []
  | c :: cs => f c (cnt pre c) ++ wk f (pre ++ [c]) cs
def tf (c : Nat) (k : Int) : List Pr := if 127 < c then [((c : Int) - 128, k)] else []
abbrev tale (w : List Nat) : List Pr := wk tf [] w
def ins (l : List Nat) (x : Pr) : List Nat := l.take x.2.toNat ++ [(128 + x.1).toNat] ++ l.drop x.2.toNat
def build (l : List Nat) (st : List Pr) : List Nat := st.foldl ins l
def asc (w : List Nat) : List Nat := w.filter fun c => decide (c < 128)
def Ok (n : Nat) : List Pr → Prop
  | [] => True
  | x :: st => 0 ≤ x.1 ∧ 0 ≤ x.2 ∧ x.2 ≤ n ∧ Ok (n + 1) st

theorem snoc_ind {α : Type} {C : List α → Prop} (h0 : C []) (h1 : ∀ l a, C l → C (l ++ [a])) (l : List α) : C l := by
  have : ∀ l : List α, C l.reverse := by
    intro l
    induction l with
    | nil => exact h0
    | cons a l ih => rw [List.reverse_cons]; exact h1 _ _ ih
  rw [← List.reverse_reverse l]; exact this _
theorem ltR_trans {x y z : Pr} (a : ltR x y) (b : ltR y z) : ltR x z := by unfold ltR at *; (first | lia | omega)
theorem cnt_app (a b : List Nat) (c : Nat) : cnt (a ++ b) c = cnt a c + cnt b c := by unfold cnt; rw [List.countP_append]; (first | lia | omega)
theorem cnt_one (d c : Nat) : cnt [d] c = if d ≤ c then 1 else 0 := by
  unfold cnt; rw [List.countP_cons, List.countP_nil]; by_cases h : d ≤ c <;> simp [h]
theorem cnt_all {w : List Nat} {c : Nat} (h : ∀ d ∈ w, d ≤ c) : cnt w c = w.length := by
  unfold cnt; congr 1; exact List.countP_eq_length.mpr fun d hd => by simpa using h d hd
theorem cnt_nn (w : List Nat) (c : Nat) : 0 ≤ cnt w c := by unfold cnt; (first | lia | omega)
theorem cnt_le (w : List Nat) (c : Nat) : cnt w c ≤ w.length := by unfold cnt; have := List.countP_le_length (p := fun d => decide (d ≤ c)) (l := w); (first | lia | omega)
section
variable {α : Type} {f : Nat → Int → List α}
theorem wk_app (a b : List Nat) : ∀ pre, wk f pre (a ++ b) = wk f pre a ++ wk f (pre ++ a) b := by
  induction a with
  | nil => intro pre; simp [wk]
  | cons c a ih => intro pre; simp only [List.cons_append, wk, ih (pre ++ [c]), List.append_assoc, List.cons_append, List.nil_append]
theorem wk_congr (hf : ∀ d, d ≤ 127 → ∀ k k', f d k = f d k') (b : List Nat) : ∀ pre pre', (∀ d ∈ b, 127 < d → cnt pre d = cnt pre' d) → wk f pre b = wk f pre' b := by
  induction b with
  | nil => intro _ _ _; rfl
  | cons c b ih =>
    intro pre pre' h
    simp only [wk]
    rw [ih (pre ++ [c]) (pre' ++ [c]) fun d hd h1 => by rw [cnt_app, cnt_app, h d (List.mem_cons_of_mem _ hd) h1]]
    congr 1
    by_cases h1 : 127 < c
    · rw [h c List.mem_cons_self h1]
    · exact hf c (by (first | lia | omega)) _ _
theorem wk_split {x : α} {w : List Nat} : ∀ pre, x ∈ wk f pre w → ∃ a c b, w = a ++ c :: b ∧ x ∈ f c (cnt (pre ++ a) c) := by
  induction w with
  | nil => intro pre h; simp [wk] at h
  | cons c w ih =>
    intro pre h
    simp only [wk, List.mem_append] at h
    rcases h with h | h
    · exact ⟨[], c, w, rfl, by simpa using h⟩
    · obtain ⟨a, d, b, e, h'⟩ := ih _ h
      exact ⟨c :: a, d, b, by rw [e]; rfl, by simpa using h'⟩
theorem wk_in {x : α} {a b : List Nat} {c : Nat} (pre : List Nat) (h : x ∈ f c (cnt (pre ++ a) c)) : x ∈ wk f pre (a ++ c :: b) := by
  rw [wk_app]; simp only [wk, List.mem_append]; exact .inr (.inl h)
end
theorem tf_low (d : Nat) (h : d ≤ 127) (k k' : Int) : tf d k = tf d k' := by unfold tf; rw [if_neg (by (first | lia | omega)), if_neg (by (first | lia | omega))]
theorem tale_split {x : Pr} {w : List Nat} (h : x ∈ tale w) : ∃ (a : List Nat) (c : Nat) (b : List Nat), w = a ++ c :: b ∧ 127 < c ∧ x = ((c : Int) - 128, cnt a c) := by
  obtain ⟨a, c, b, e, h⟩ := wk_split [] h
  unfold tf at h
  by_cases h1 : 127 < c
  · rw [if_pos h1] at h; exact ⟨a, c, b, e, h1, by simpa using h⟩
  · rw [if_neg h1] at h; simp at h
theorem tale_in {a b : List Nat} {c : Nat} (h : 127 < c) : ((c : Int) - 128, cnt a c) ∈ tale (a ++ c :: b) := by
  refine wk_in [] ?_; unfold tf; rw [if_pos h]; simp
theorem tale_has {w : List Nat} {c : Nat} (hc : c ∈ w) (h : 127 < c) : ∃ k, ((c : Int) - 128, k) ∈ tale w := by
  obtain ⟨a, b, rfl⟩ := List.append_of_mem hc
  exact ⟨_, tale_in h⟩

theorem ins_length (l : List Nat) (x : Pr) : (ins l x).length = l.length + 1 := by
  unfold ins; simp only [List.length_append, List.length_take, List.length_drop, List.length_cons, List.length_nil]; (first | lia | omega)
theorem build_snoc (l : List Nat) (st : List Pr) (x : Pr) : build l (st ++ [x]) = ins (build l st) x := by unfold build; rw [List.foldl_append]; rfl
theorem build_length (l : List Nat) (st : List Pr) : (build l st).length = l.length + st.length := by
  induction st generalizing l with
  | nil => rfl
  | cons x st ih => show (build (ins l x) st).length = _; rw [ih, ins_length, List.length_cons]; (first | lia | omega)
theorem Ok_app {st st' : List Pr} : ∀ {n : Nat}, Ok n (st ++ st') ↔ Ok n st ∧ Ok (n + st.length) st' := by
  induction st with
  | nil => intro n; simp [Ok]
  | cons x st ih =>
    intro n
    simp only [List.cons_append, Ok, ih, List.length_cons]
    rw [show n + 1 + st.length = n + (st.length + 1) from by (first | lia | omega)]
    constructor
    · rintro ⟨a, b, c, d, e⟩; exact ⟨⟨a, b, c, d⟩, e⟩
    · rintro ⟨⟨a, b, c, d⟩, e⟩; exact ⟨a, b, c, d, e⟩
theorem Ok_snoc {st : List Pr} {x : Pr} {n : Nat} : Ok n (st ++ [x]) ↔ Ok n st ∧ 0 ≤ x.1 ∧ 0 ≤ x.2 ∧ x.2 ≤ ((n + st.length : Nat) : Int) := by
  rw [Ok_app]; simp [Ok]
theorem Up_snoc {st : List Pr} {x : Pr} : Up (st ++ [x]) ↔ Up st ∧ ∀ y ∈ st, ltR y x := by
  unfold Up; rw [List.pairwise_append]; simp

/-- how a word grows -/
structure Grow (w : List Nat) (x : Pr) : Prop where
  s0 : 0 ≤ x.1
  p0 : 0 ≤ x.2
  p1 : x.2 ≤ w.length
  le : ∀ d ∈ w, (d : Int) ≤ 128 + x.1
  lt : ∀ d ∈ w.drop x.2.toNat, (d : Int) < 128 + x.1
section
variable {α : Type} {f : Nat → Int → List α}
theorem wk_grow (hf : ∀ d, d ≤ 127 → ∀ k k', f d k = f d k') {w : List Nat} {x : Pr} (g : Grow w x) : wk f [] (ins w x) = wk f [] (w.take x.2.toNat) ++ f (128 + x.1).toNat x.2 ++ wk f (w.take x.2.toNat) (w.drop x.2.toNat) := by
  unfold ins
  rw [wk_app, wk_app]
  simp only [List.nil_append, wk, List.append_nil]
  have hc : ((128 + x.1).toNat : Int) = 128 + x.1 := by have := g.s0; (first | lia | omega)
  have e1 : cnt (w.take x.2.toNat) (128 + x.1).toNat = x.2 := by
    rw [cnt_all fun d hd => ?_]
    · rw [List.length_take]; have := g.p0; have := g.p1; (first | lia | omega)
    · have := g.le d (List.mem_of_mem_take hd); (first | lia | omega)
  rw [e1]
  congr 1
  refine wk_congr hf _ _ _ fun d hd h1 => ?_
  rw [cnt_app, cnt_one, if_neg, Int.add_zero]
  have := g.lt d hd; (first | lia | omega)
theorem wk_cut (w : List Nat) (i : Nat) : wk f [] w = wk f [] (w.take i) ++ wk f (w.take i) (w.drop i) := by
  conv => lhs; rw [← List.take_append_drop i w]
  rw [wk_app]; rfl
end
theorem tale_grow {w : List Nat} {x : Pr} (g : Grow w x) : (tale (ins w x)).Perm (tale w ++ [x]) := by
  show (wk tf [] _).Perm (wk tf [] w ++ [x])
  rw [wk_grow tf_low g, wk_cut w x.2.toNat]
  have : tf (128 + x.1).toNat x.2 = [x] := by
    have := g.s0
    unfold tf; rw [if_pos (by (first | lia | omega))]
    congr 1
    exact Prod.ext (by dsimp only; (first | lia | omega)) rfl
  rw [this, List.append_assoc, List.append_assoc]
  exact List.Perm.append_left _ List.perm_append_comm
theorem asc_grow {w : List Nat} {x : Pr} (h : 0 ≤ x.1) : asc (ins w x) = asc w := by
  unfold asc ins
  rw [List.filter_append, List.filter_append]
  have : [(128 + x.1).toNat].filter (fun c => decide (c < 128)) = [] := by
    rw [List.filter_cons_of_neg (by simp; (first | lia | omega))]; rfl
  rw [this, List.append_nil, ← List.filter_append, List.take_append_drop]
/-- letters that stand in no story are ASCII -/
theorem grow_of {w : List Nat} {st : List Pr} {x : Pr} (hp : (tale w).Perm st) (hu : ∀ y ∈ st, ltR y x) (s0 : 0 ≤ x.1) (p0 : 0 ≤ x.2) (p1 : x.2 ≤ w.length) : Grow w x := by
  have le : ∀ d ∈ w, (d : Int) ≤ 128 + x.1 := by
    intro d hd
    by_cases h : 127 < d
    · obtain ⟨k, hk⟩ := tale_has hd h
      have := hu _ (hp.mem_iff.mp hk)
      unfold ltR at this; dsimp only at this; (first | lia | omega)
    · (first | lia | omega)
  refine ⟨s0, p0, p1, le, fun d hd => ?_⟩
  have h1 := le d (List.mem_of_mem_drop hd)
  by_cases h : 127 < d
  · obtain ⟨a, b, e⟩ := List.append_of_mem hd
    have ew : w = (w.take x.2.toNat ++ a) ++ d :: b := by rw [List.append_assoc, ← e, List.take_append_drop]
    have hm : ((d : Int) - 128, cnt (w.take x.2.toNat ++ a) d) ∈ tale w := by
      have := tale_in (a := w.take x.2.toNat ++ a) (b := b) h
      rwa [← ew] at this
    have := hu _ (hp.mem_iff.mp hm)
    unfold ltR at this; dsimp only at this
    rcases this with q | ⟨q, q'⟩
    · (first | lia | omega)
    · exfalso
      rw [cnt_all fun c hc => ?_] at q'
      · rw [List.length_append, List.length_take] at q'; (first | lia | omega)
      · have : c ∈ w := by rw [ew]; exact List.mem_append_left _ hc
        have := le c this; (first | lia | omega)
  · (first | lia | omega)
theorem tale_asc {h : List Nat} (ha : ∀ c ∈ h, c < 128) : tale h = [] := by
  refine List.eq_nil_iff_forall_not_mem.mpr fun x hx => ?_
  obtain ⟨a, c, b, rfl, h1, _⟩ := tale_split hx
  have := ha c (by simp); (first | lia | omega)
/-- what is built of a story has the story -/
theorem build_has {h : List Nat} (ha : ∀ c ∈ h, c < 128) (st : List Pr) : Up st → Ok h.length st → (tale (build h st)).Perm st ∧ asc (build h st) = h := by
  induction st using snoc_ind with
  | h0 => intro _ _; exact ⟨by show (tale h).Perm []; rw [tale_asc ha], List.filter_eq_self.mpr fun c hc => by simpa using ha c hc⟩
  | h1 st x ih =>
    intro hu hok
    obtain ⟨hu, hx⟩ := Up_snoc.mp hu
    obtain ⟨hok, s0, p0, p1⟩ := Ok_snoc.mp hok
    obtain ⟨h1, h2⟩ := ih hu hok
    have g := grow_of h1 hx s0 p0 (by rw [build_length]; exact p1)
    rw [build_snoc]
    exact ⟨(tale_grow g).trans (h1.append_right _), (asc_grow s0).trans h2⟩
theorem grow_at {h : List Nat} (ha : ∀ c ∈ h, c < 128) {st : List Pr} {x : Pr} (hu : Up (st ++ [x])) (hok : Ok h.length (st ++ [x])) : Grow (build h st) x := by
  obtain ⟨hu, hx⟩ := Up_snoc.mp hu
  obtain ⟨hok, s0, p0, p1⟩ := Ok_snoc.mp hok
  exact grow_of (build_has ha st hu hok).1 hx s0 p0 (by rw [build_length]; exact p1)
/-- a word is built of its story -/
theorem build_of (st : List Pr) : ∀ w : List Nat, Up st → st.Perm (tale w) → build (asc w) st = w ∧ Ok (asc w).length st := by
  induction st using snoc_ind with
  | h0 =>
    intro w _ hp
    have e : tale w = [] := hp.nil_eq.symm
    refine ⟨?_, trivial⟩
    show w.filter _ = w
    refine List.filter_eq_self.mpr fun c hc => ?_
    rcases Nat.lt_or_ge 127 c with h | h
    · obtain ⟨k, hk⟩ := tale_has hc h
      rw [e] at hk; simp at hk
    · simp; (first | lia | omega)
  | h1 st x ih =>
    intro w hu hp
    obtain ⟨hu', hx⟩ := Up_snoc.mp hu
    have hmx : x ∈ tale w := hp.mem_iff.mp (by simp)
    obtain ⟨a, c, b, rfl, hc, rfl⟩ := tale_split hmx
    have top : ∀ y ∈ tale (a ++ c :: b), ltR y ((c : Int) - 128, cnt a c) ∨ y = ((c : Int) - 128, cnt a c) := fun y hy => by
      have := hp.mem_iff.mpr hy
      rcases List.mem_append.mp this with h | h
      · exact .inl (hx y h)
      · exact .inr (by simpa using h)
    have le : ∀ d ∈ a ++ c :: b, d ≤ c := fun d hd => by
      rcases Nat.lt_or_ge 127 d with h | h
      · obtain ⟨k, hk⟩ := tale_has hd h
        rcases top _ hk with q | q
        · unfold ltR at q; dsimp only at q; (first | lia | omega)
        · have := congrArg Prod.fst q; dsimp only at this; (first | lia | omega)
      · (first | lia | omega)
    have ha : cnt a c = a.length := cnt_all fun d hd => le d (List.mem_append_left _ hd)
    have lt : ∀ d ∈ b, d < c := fun d hd => by
      have h1 := le d (by simp [hd])
      rcases Nat.lt_or_ge d c with h | h
      · exact h
      · exfalso
        obtain rfl : d = c := by (first | lia | omega)
        obtain ⟨b1, b2, rfl⟩ := List.append_of_mem hd
        have hm : ((d : Int) - 128, cnt (a ++ d :: b1) d) ∈ tale (a ++ d :: (b1 ++ d :: b2)) := by
          have := tale_in (a := a ++ d :: b1) (b := b2) hc
          rwa [List.append_assoc, List.cons_append] at this
        have e : cnt (a ++ d :: b1) d = (a ++ d :: b1).length := cnt_all fun y hy => le y (by
          rw [show a ++ d :: (b1 ++ d :: b2) = (a ++ d :: b1) ++ d :: b2 from by simp]
          exact List.mem_append_left _ hy)
        rw [e, List.length_append, List.length_cons] at hm
        rcases top _ hm with q | q
        · unfold ltR at q; dsimp only at q; (first | lia | omega)
        · have := congrArg Prod.snd q; dsimp only at this; (first | lia | omega)
    have ht : (tale (a ++ c :: b)).Perm (tale (a ++ b) ++ [((c : Int) - 128, cnt a c)]) := by
      show (wk tf [] _).Perm (wk tf [] _ ++ _)
      rw [wk_app, wk_app]
      simp only [wk, List.nil_append]
      have e1 : tf c (cnt a c) = [((c : Int) - 128, cnt a c)] := by unfold tf; rw [if_pos hc]
      have e2 : wk tf (a ++ [c]) b = wk tf a b := wk_congr tf_low _ _ _ fun d hd h1 => by
        rw [cnt_app, cnt_one, if_neg, Int.add_zero]
        have := lt d hd; (first | lia | omega)
      rw [e1, e2, List.append_assoc]
      exact List.Perm.append_left _ List.perm_append_comm
    have hp' : st.Perm (tale (a ++ b)) := (List.perm_append_right_iff _).mp (hp.trans ht)
    have hasc : asc (a ++ c :: b) = asc (a ++ b) := by
      unfold asc
      rw [List.filter_append, List.filter_append, List.filter_cons_of_neg (by simp; (first | lia | omega))]
    obtain ⟨i1, i2⟩ := ih (a ++ b) hu' hp'
    rw [hasc]
    have hl : (asc (a ++ b)).length + st.length = a.length + b.length := by rw [← build_length, i1, List.length_append]
    refine ⟨?_, Ok_snoc.mpr ⟨i2, by dsimp only; (first | lia | omega), by dsimp only; (first | lia | omega), by dsimp only; (first | lia | omega)⟩⟩
    rw [build_snoc, i1]
    unfold ins
    dsimp only
    rw [ha, Int.toNat_natCast, List.take_left, List.drop_left, show (128 + ((c : Int) - 128)).toNat = c from by (first | lia | omega)]
    simp
end Pl
namespace Pl
/-- the story of a row of numbers -/
def stF : Nat → Int → List Int → List Pr
  | _, _, [] => []
  | n, h, d :: ds => ((h + d + 1) / (n + 1), (h + d + 1) % (n + 1)) :: stF (n + 1) ((h + d + 1) / (n + 1) * (n + 2) + (h + d + 1) % (n + 1)) ds
/-- the row of numbers of a story -/
def numF : Nat → Int → List Pr → List Int
  | _, _, [] => []
  | n, h, x :: st => (x.1 * (n + 1) + x.2 - h - 1) :: numF (n + 1) (x.1 * (n + 2) + x.2) st
theorem stF_length (ds : List Int) : ∀ n h, (stF n h ds).length = ds.length := by
  induction ds with
  | nil => intro _ _; rfl
  | cons d ds ih => intro n h; simp [stF, ih]
theorem numF_length (st : List Pr) : ∀ n h, (numF n h st).length = st.length := by
  induction st with
  | nil => intro _ _; rfl
  | cons d ds ih => intro n h; simp [numF, ih]
theorem divmod_eq {q r n : Int} (h0 : 0 ≤ r) (h1 : r < n) : (q * n + r) / n = q ∧ (q * n + r) % n = r := by
  have hn : n ≠ 0 := by (first | lia | omega)
  constructor
  · rw [Int.add_comm, Int.add_mul_ediv_right _ _ hn, Int.ediv_eq_zero_of_lt h0 h1]; (first | lia | omega)
  · rw [Int.add_comm, Int.add_mul_emod_self_right, Int.emod_eq_of_lt h0 h1]
theorem later {n s p s' p' : Int} (hn : 0 ≤ n) (h0 : 0 ≤ p') (h1 : p' < n + 1) (hp : p ≤ n) (hp0 : -1 ≤ p) : (s * (n + 1) + p < s' * (n + 1) + p') ↔ (s < s' ∨ (s = s' ∧ p < p')) := by
  constructor
  · intro h
    rcases Int.lt_trichotomy s s' with q | q | q
    · exact .inl q
    · subst q; exact .inr ⟨rfl, by (first | lia | omega)⟩
    · exfalso
      have : (s' + 1) * (n + 1) ≤ s * (n + 1) := Int.mul_le_mul_of_nonneg_right (by (first | lia | omega)) (by (first | lia | omega))
      rw [Int.add_mul, Int.one_mul] at this; (first | lia | omega)
  · rintro (q | ⟨rfl, q⟩)
    · have : (s + 1) * (n + 1) ≤ s' * (n + 1) := Int.mul_le_mul_of_nonneg_right (by (first | lia | omega)) (by (first | lia | omega))
      rw [Int.add_mul, Int.one_mul] at this; (first | lia | omega)
    · (first | lia | omega)
theorem stF_ok (ds : List Int) : ∀ (n : Nat) (s p : Int), 0 ≤ s → -1 ≤ p → p ≤ n → (∀ d ∈ ds, 0 ≤ d) → Ok n (stF n (s * (n + 1) + p) ds) ∧ Up (stF n (s * (n + 1) + p) ds) ∧ ∀ x ∈ stF n (s * (n + 1) + p) ds, ltR (s, p) x := by
  induction ds with
  | nil => intro n s p _ _ _ _; exact ⟨trivial, List.Pairwise.nil, fun _ h => nomatch h⟩
  | cons d ds ih =>
    intro n s p s0 p0 p1 hd
    have d0 := hd d (by simp)
    have e := Int.mul_ediv_add_emod (s * (n + 1) + p + d + 1) (n + 1)
    have m0 : 0 ≤ (s * (n + 1) + p + d + 1) % ((n : Int) + 1) := Int.emod_nonneg _ (by (first | lia | omega))
    have m1 : (s * (n + 1) + p + d + 1) % ((n : Int) + 1) < n + 1 := Int.emod_lt_of_pos _ (by (first | lia | omega))
    show (0 ≤ (s * (n + 1) + p + d + 1) / ((n : Int) + 1) ∧ _ ∧ _ ∧ _) ∧ Up (_ :: _) ∧ ∀ x ∈ (_ :: _), _
    generalize (s * (n + 1) + p + d + 1) % ((n : Int) + 1) = r at *
    generalize (s * (n + 1) + p + d + 1) / ((n : Int) + 1) = q at *
    have lt : ltR (s, p) (q, r) := by
      have := (later (n := n) (s := s) (p := p) (s' := q) (p' := r) (by (first | lia | omega)) m0 m1 p1 p0).mp (by rw [Int.mul_comm q]; (first | lia | omega))
      exact this
    have q0 : 0 ≤ q := by unfold ltR at lt; dsimp only at lt; (first | lia | omega)
    obtain ⟨i1, i2, i3⟩ := ih (n + 1) q r q0 (by (first | lia | omega)) (by (first | lia | omega)) fun x hx => hd x (by simp [hx])
    rw [show ((n + 1 : Nat) : Int) + 1 = n + 2 from by (first | lia | omega)] at i1 i2 i3
    refine ⟨⟨q0, m0, by dsimp only; (first | lia | omega), i1⟩, List.pairwise_cons.mpr ⟨i3, i2⟩, fun x hx => ?_⟩
    rcases List.mem_cons.mp hx with rfl | hx
    · exact lt
    · exact ltR_trans lt (i3 x hx)
theorem stF_ok0 {ds : List Int} {n : Nat} (hd : ∀ d ∈ ds, 0 ≤ d) : Ok n (stF n (-1) ds) ∧ Up (stF n (-1) ds) := by
  have := stF_ok ds n 0 (-1) (by decide) (by decide) (by (first | lia | omega)) hd
  simp only [Int.zero_mul, Int.zero_add] at this
  exact ⟨this.1, this.2.1⟩
theorem stF_num (st : List Pr) : ∀ (n : Nat) (h : Int), Ok n st → stF n h (numF n h st) = st := by
  induction st with
  | nil => intro _ _ _; rfl
  | cons x st ih =>
    intro n h ⟨s0, p0, p1, ok⟩
    obtain ⟨e1, e2⟩ := divmod_eq (q := x.1) (r := x.2) (n := (n : Int) + 1) p0 (by (first | lia | omega))
    show ((h + (x.1 * (n + 1) + x.2 - h - 1) + 1) / (n + 1), (h + (x.1 * (n + 1) + x.2 - h - 1) + 1) % (n + 1)) :: _ = _
    rw [show h + (x.1 * (n + 1) + x.2 - h - 1) + 1 = x.1 * (n + 1) + x.2 from by (first | lia | omega), e1, e2, ih _ _ ok]
theorem numF_ok (st : List Pr) (B N : Int) : ∀ (n : Nat) (s p : Int), 0 ≤ s → -1 ≤ p → p ≤ n → Ok n st → Up st → (∀ x ∈ st, ltR (s, p) x) → (∀ x ∈ st, x.1 ≤ B) → (n : Int) + st.length ≤ N → 0 ≤ B → ∀ d ∈ numF n (s * (n + 1) + p) st, 0 ≤ d ∧ d ≤ B * N + N := by
  induction st with
  | nil => intro n s p _ _ _ _ _ _ _ _ _ d hd; exact nomatch hd
  | cons x st ih =>
    intro n s p s0 p0 p1 ok up gt bd hN hB d hd
    obtain ⟨x0, y0, y1, ok⟩ := ok
    have lt := gt x (by simp)
    have up' := List.pairwise_cons.mp up
    rcases List.mem_cons.mp hd with rfl | hd
    · have := (later (n := n) (s := s) (p := p) (s' := x.1) (p' := x.2) (by (first | lia | omega)) y0 (by (first | lia | omega)) p1 p0).mpr lt
      refine ⟨by (first | lia | omega), ?_⟩
      have h1 : x.1 * ((n : Int) + 1) ≤ B * N := by
        have a1 : x.1 * ((n : Int) + 1) ≤ B * (n + 1) := Int.mul_le_mul_of_nonneg_right (bd x (by simp)) (by (first | lia | omega))
        have a2 : B * ((n : Int) + 1) ≤ B * N := Int.mul_le_mul_of_nonneg_left (by rw [List.length_cons] at hN; (first | lia | omega)) hB
        (first | lia | omega)
      have h2 : 0 ≤ s * ((n : Int) + 1) := Int.mul_nonneg s0 (by (first | lia | omega))
      rw [List.length_cons] at hN; (first | lia | omega)
    · refine ih (n + 1) x.1 x.2 x0 (by (first | lia | omega)) (by (first | lia | omega)) ok up'.2 up'.1 (fun y hy => bd y (by simp [hy])) (by rw [List.length_cons] at hN; (first | lia | omega)) hB d ?_
      rw [show ((n + 1 : Nat) : Int) + 1 = n + 2 from by (first | lia | omega)]; exact hd
theorem numF_ok0 {st : List Pr} {B N : Int} {n : Nat} (ok : Ok n st) (up : Up st) (bd : ∀ x ∈ st, x.1 ≤ B) (hN : (n : Int) + st.length ≤ N) (hB : 0 ≤ B) : ∀ d ∈ numF n (-1) st, 0 ≤ d ∧ d ≤ B * N + N := by
  have gt : ∀ x ∈ st, ltR (0, -1) x := by
    have : ∀ (st : List Pr) (n : Nat), Ok n st → ∀ x ∈ st, 0 ≤ x.1 ∧ 0 ≤ x.2 := by
      intro st
      induction st with
      | nil => intro n _ x hx; exact nomatch hx
      | cons y st ih =>
        intro n ⟨a, b, c, d⟩ x hx
        rcases List.mem_cons.mp hx with rfl | hx
        · exact ⟨a, b⟩
        · exact ih _ d x hx
    intro x hx
    obtain ⟨a, b⟩ := this st n ok x hx
    unfold ltR; dsimp only; (first | lia | omega)
  have := numF_ok st B N n 0 (-1) (by decide) (by decide) (by (first | lia | omega)) ok up gt bd hN hB
  simpa using this
def lift (w : List Nat) : Int := (w.map fun c : Nat => (128 - max 128 (c : Int) : Int)).sum
def rest (w : List Nat) (x : Pr) : Int := x.1 + x.2 + 1 + (w.length * x.1 + lift w)
end Pl
namespace Pl
theorem tale_rise {w : List Nat} : ∀ pre, (wk tf pre w).Pairwise fun x y => x.1 = y.1 → x.2 < y.2 := by
  induction w with
  | nil => intro _; exact List.Pairwise.nil
  | cons c w ih =>
    intro pre
    simp only [wk]
    refine List.pairwise_append.mpr ⟨?_, ih _, fun x hx y hy e => ?_⟩
    · unfold tf; split
      · exact List.pairwise_singleton _ _
      · exact List.Pairwise.nil
    · obtain ⟨a, d, b, _, hy⟩ := wk_split _ hy
      unfold tf at hx hy
      split at hx
      · split at hy
        · obtain rfl := List.mem_singleton.mp hx
          obtain rfl := List.mem_singleton.mp hy
          dsimp only at e ⊢
          obtain rfl : c = d := by (first | lia | omega)
          rw [cnt_app, cnt_app, cnt_one, if_pos (Nat.le_refl _)]
          have := cnt_nn a c; (first | lia | omega)
        · simp at hy
      · simp at hx
/-- the sorted tale is the story -/
theorem sorted_up {w : List Nat} {T : List Pr} (hp : T.Perm (tale w)) (hs : T.Pairwise fun a c => ¬ ltR c a) : Up T := by
  have nd : T.Pairwise fun a c : Pr => a ≠ c := by
    refine (hp.pairwise_iff fun a => Ne.symm a).mpr ((tale_rise []).imp fun {x y} h e => ?_)
    have := h (by rw [e]); rw [e] at this; (first | lia | omega)
  refine (hs.and nd).imp fun {a c} h => ?_
  obtain ⟨h1, h2⟩ := h
  unfold ltR at *
  have : ¬ (a.1 = c.1 ∧ a.2 = c.2) := fun q => h2 (Prod.ext q.1 q.2)
  (first | lia | omega)
/-- a word, its ASCII signs and its story -/
structure Sto (h w : List Nat) (st : List Pr) : Prop where
  up : Up st
  tale : (tale w).Perm st
  asc : asc w = h
theorem asc_lt (w : List Nat) : ∀ c ∈ asc w, c < 128 := fun c hc => by
  unfold asc at hc; simpa using (List.mem_filter.mp hc).2
section
variable {h h' w w' : List Nat} {st st' : List Pr}
theorem Sto.lt (x : Sto h w st) : ∀ c ∈ h, c < 128 := by rw [← x.asc]; exact asc_lt w
theorem Sto.build (x : Sto h w st) : build h st = w := by
  have := (build_of st w x.up x.tale.symm).1
  rwa [x.asc] at this
theorem Sto.ok (x : Sto h w st) : Ok h.length st := by
  have := (build_of st w x.up x.tale.symm).2
  rwa [x.asc] at this
theorem Sto.len (x : Sto h w st) : w.length = h.length + st.length := by rw [← x.build, build_length]
theorem Sto.of (ha : ∀ c ∈ h, c < 128) (hu : Up st) (hok : Ok h.length st) : Sto h (Pl.build h st) st :=
  ⟨hu, (build_has ha st hu hok).1, (build_has ha st hu hok).2⟩
theorem grow_lt {x : Pr} (g : Grow w x) : ∀ y ∈ Pl.tale w, ltR y x := by
  intro y hy
  obtain ⟨a, c, b, rfl, hc, rfl⟩ := tale_split hy
  have h1 := g.le c (by simp)
  unfold ltR; dsimp only
  by_cases e : (c : Int) - 128 = x.1
  · right
    refine ⟨e, ?_⟩
    have := cnt_le a c
    have : ¬ x.2.toNat ≤ a.length := fun q => by
      have := g.lt c (by rw [List.drop_append_of_le_length q]; simp)
      (first | lia | omega)
    (first | lia | omega)
  · (first | lia | omega)
theorem Sto.grow {x : Pr} (s : Sto h w st) (g : Grow w x) : Sto h (ins w x) (st ++ [x]) :=
  ⟨Up_snoc.mpr ⟨s.up, fun y hy => grow_lt g y (s.tale.mem_iff.mpr hy)⟩, (tale_grow g).trans (s.tale.append_right _), (asc_grow g.s0).trans s.asc⟩
end

def cutS (x : Pr) (a : Int × List Pr × List Pr) : Int × List Pr × List Pr := if x.2 < a.1 then (a.1 - 1, x :: a.2.1, a.2.2) else (a.1, a.2.1, (x.1, x.2 - a.1) :: a.2.2)
def cutF (spot : Int) (st : List Pr) : Int × List Pr × List Pr := st.foldr cutS (spot, [], [])
theorem cut_acc (st : List Pr) : ∀ (spot : Int) (l r : List Pr), st.foldr cutS (spot, l, r) = ((cutF spot st).1, (cutF spot st).2.1 ++ l, (cutF spot st).2.2 ++ r) := by
  induction st with
  | nil => intro _ _ _; rfl
  | cons x st ih =>
    intro spot l r
    unfold cutF
    rw [List.foldr_cons, List.foldr_cons, ih spot l r]
    show cutS x _ = _
    unfold cutF cutS
    dsimp only
    split <;> rfl
theorem cut_snoc (st : List Pr) (x : Pr) (spot : Int) : cutF spot (st ++ [x]) = if x.2 < spot then ((cutF (spot - 1) st).1, (cutF (spot - 1) st).2.1 ++ [x], (cutF (spot - 1) st).2.2)
    else ((cutF spot st).1, (cutF spot st).2.1, (cutF spot st).2.2 ++ [(x.1, x.2 - spot)]) := by
  show (st ++ [x]).foldr cutS (spot, [], []) = _
  rw [List.foldr_append, List.foldr_cons, List.foldr_nil]
  unfold cutS
  dsimp only
  split
  · rw [← List.append_nil (cutF (spot - 1) st).2.2]; exact cut_acc _ _ _ _
  · rw [← List.append_nil (cutF spot st).2.1]; exact cut_acc _ _ _ _
theorem take_ins {w : List Nat} {x : Pr} {k : Nat} (h : x.2.toNat ≤ k) (hw : x.2.toNat ≤ w.length) : (ins w x).take (k + 1) = ins (w.take k) x ∧ (ins w x).drop (k + 1) = w.drop k := by
  unfold ins
  have e1 : (w.take x.2.toNat ++ [(128 + x.1).toNat]).length = x.2.toNat + 1 := by rw [List.length_append, List.length_take]; simp; (first | lia | omega)
  constructor
  · rw [List.take_append, e1, List.take_of_length_le (by (first | lia | omega)), List.take_take, Nat.min_eq_left h, List.drop_take, show k + 1 - (x.2.toNat + 1) = k - x.2.toNat from by (first | lia | omega)]
  · rw [List.drop_append, e1, List.drop_eq_nil_of_le (by (first | lia | omega)), List.nil_append, List.drop_drop]
    congr 1; (first | lia | omega)
theorem take_ins' {w : List Nat} {x : Pr} {k : Nat} (h : k ≤ x.2.toNat) (h0 : 0 ≤ x.2) (hw : x.2.toNat ≤ w.length) : (ins w x).take k = w.take k ∧ (ins w x).drop k = ins (w.drop k) (x.1, x.2 - k) := by
  unfold ins
  have e0 : (w.take x.2.toNat).length = x.2.toNat := by rw [List.length_take]; (first | lia | omega)
  have e2 : (x.2 - k).toNat = x.2.toNat - k := by (first | lia | omega)
  constructor
  · rw [List.append_assoc, List.take_append_of_le_length (by (first | lia | omega)), List.take_take, Nat.min_eq_left h]
  · rw [List.append_assoc, List.drop_append_of_le_length (by (first | lia | omega)), List.drop_take, ← List.append_assoc]
    dsimp only
    rw [e2, List.drop_drop]
    congr 2; (first | lia | omega)
theorem cut_ok (st : List Pr) : ∀ {h w : List Nat} (spot : Nat), Sto h w st → spot ≤ w.length → ∃ f : Nat, (cutF spot st).1 = f ∧ f ≤ h.length ∧ f ≤ spot ∧ Sto (h.take f) (w.take spot) (cutF spot st).2.1 ∧ Sto (h.drop f) (w.drop spot) (cutF spot st).2.2 := by
  induction st using snoc_ind with
  | h0 =>
    intro h w spot s hs
    have e : w = h := s.build.symm
    subst e
    have nl : ∀ (x : List Nat), (∀ c ∈ x, c < 128) → Sto x x [] := fun x hx => ⟨List.Pairwise.nil, by rw [tale_asc hx], List.filter_eq_self.mpr fun c hc => by simpa using hx c hc⟩
    exact ⟨spot, rfl, hs, Nat.le_refl _, nl _ fun c hc => s.lt c (List.mem_of_mem_take hc), nl _ fun c hc => s.lt c (List.mem_of_mem_drop hc)⟩
  | h1 st x ih =>
    intro h w spot s hs
    have g := grow_at s.lt s.up s.ok
    have s' : Sto h (build h st) st := Sto.of s.lt (Up_snoc.mp s.up).1 (Ok_snoc.mp s.ok).1
    have ew : w = ins (build h st) x := by rw [← build_snoc]; exact s.build.symm
    have p0 := g.p0
    have p1 := g.p1
    subst ew
    rw [ins_length] at hs
    rw [cut_snoc]
    by_cases hx : x.2 < spot
    · rw [if_pos hx]
      obtain ⟨k, rfl⟩ : ∃ k, spot = k + 1 := ⟨spot - 1, by (first | lia | omega)⟩
      obtain ⟨t1, t2⟩ := take_ins (w := build h st) (x := x) (k := k) (by (first | lia | omega)) (by (first | lia | omega))
      rw [t1, t2, show ((k + 1 : Nat) : Int) - 1 = (k : Int) from by (first | lia | omega)]
      obtain ⟨f, e, f1, f2, i1, i2⟩ := ih k s' (by (first | lia | omega))
      refine ⟨f, e, f1, by (first | lia | omega), i1.grow ⟨g.s0, p0, ?_, fun d hd => g.le d (List.mem_of_mem_take hd), fun d hd => g.lt d ?_⟩, i2⟩
      · rw [List.length_take]; (first | lia | omega)
      · rw [List.drop_take] at hd; exact List.mem_of_mem_take hd
    · rw [if_neg hx]
      obtain ⟨t1, t2⟩ := take_ins' (w := build h st) (x := x) (k := spot) (by (first | lia | omega)) p0 (by (first | lia | omega))
      rw [t1, t2]
      obtain ⟨f, e, f1, f2, i1, i2⟩ := ih spot s' (by (first | lia | omega))
      refine ⟨f, e, f1, f2, i1, i2.grow ⟨g.s0, by dsimp only; (first | lia | omega), ?_, fun d hd => g.le d (List.mem_of_mem_drop hd), fun d hd => g.lt d ?_⟩⟩
      · rw [List.length_drop]; dsimp only; (first | lia | omega)
      · dsimp only at hd
        rw [List.drop_drop, show spot + (x.2 - (spot : Int)).toNat = x.2.toNat from by (first | lia | omega)] at hd; exact hd

def upF (size : Int) (st : List Pr) (s : Int) : Int := size + (st.countP fun x => decide (x.1 ≤ s) : Nat)
theorem cnt_tale {c : Nat} (hc : 127 < c) (w : List Nat) : ∀ pre, cnt w c = upF (asc w).length (wk tf pre w) ((c : Int) - 128) := by
  induction w with
  | nil => intro _; rfl
  | cons d w ih =>
    intro pre
    have := ih (pre ++ [d])
    unfold upF at this ⊢
    rw [show d :: w = [d] ++ w from rfl, cnt_app, cnt_one, this]
    simp only [List.cons_append, List.nil_append, wk, List.countP_append]
    unfold tf asc
    by_cases h1 : 127 < d
    · rw [if_pos h1, List.filter_cons_of_neg (by simp; (first | lia | omega))]
      by_cases h2 : d ≤ c
      · rw [if_pos h2, List.countP_cons_of_pos (by simp; (first | lia | omega))]; simp; (first | lia | omega)
      · rw [if_neg h2, List.countP_cons_of_neg (by simp; (first | lia | omega))]; simp
    · rw [if_neg h1, List.filter_cons_of_pos (by simp; (first | lia | omega)), if_pos (by (first | lia | omega)), List.length_cons]; simp; (first | lia | omega)
theorem Sto.upto {h w : List Nat} {st : List Pr} (s : Sto h w st) {c : Nat} (hc : 127 < c) : upF h.length st ((c : Int) - 128) = cnt w c := by
  rw [cnt_tale hc w [], s.asc]
  unfold upF
  rw [s.tale.countP_eq]
theorem tale_behind (a w : List Nat) : ∀ pre, wk tf (a ++ pre) w = (wk tf pre w).map fun x => (x.1, x.2 + cnt a (x.1 + 128).toNat) := by
  induction w with
  | nil => intro _; rfl
  | cons c w ih =>
    intro pre
    simp only [wk, List.map_append]
    rw [List.append_assoc, ih (pre ++ [c])]
    congr 1
    unfold tf
    split
    · simp only [List.map_cons, List.map_nil]
      rw [cnt_app, show ((c : Int) - 128 + 128).toNat = c from by (first | lia | omega), Int.add_comm]
    · rfl
theorem tale_sign {w : List Nat} {x : Pr} (h : x ∈ tale w) : ∃ c : Nat, 127 < c ∧ x.1 = (c : Int) - 128 := by
  obtain ⟨a, c, b, _, hc, rfl⟩ := tale_split h
  exact ⟨c, hc, rfl⟩
theorem Sto.join {h h' w w' : List Nat} {st st' T : List Pr} (s : Sto h w st) (s' : Sto h' w' st') (hp : T.Perm (st ++ st'.map fun x => (x.1, x.2 + upF h.length st x.1))) (hs : T.Pairwise fun a c => ¬ ltR c a) : Sto (h ++ h') (w ++ w') T := by
  have ht : (Pl.tale (w ++ w')).Perm T := by
    refine List.Perm.trans ?_ hp.symm
    show (wk tf [] (w ++ w')).Perm _
    rw [wk_app]
    refine List.Perm.append s.tale ?_
    have := tale_behind w w' []
    simp only [List.append_nil] at this
    rw [List.nil_append, this]
    refine List.Perm.trans (s'.tale.map _) ?_
    refine List.Perm.of_eq (List.map_congr_left fun x hx => ?_)
    obtain ⟨c, hc, e⟩ := tale_sign (s'.tale.mem_iff.mpr hx)
    rw [e, s.upto hc, show ((c : Int) - 128 + 128).toNat = c from by (first | lia | omega)]
  exact ⟨sorted_up ht.symm hs, ht, by unfold Pl.asc; rw [List.filter_append]; exact congr (congrArg _ s.asc) s'.asc⟩
theorem cnt_reverse (w : List Nat) (c : Nat) : cnt w.reverse c = cnt w c := by unfold cnt; rw [(List.reverse_perm w).countP_eq]
theorem tale_reverse (w : List Nat) : ∀ pre, ((wk tf pre w).map fun x => (x.1, cnt (pre ++ w) (x.1 + 128).toNat - 1 - x.2)).Perm (tale w.reverse) := by
  induction w with
  | nil => intro _; exact List.Perm.refl _
  | cons c w ih =>
    intro pre
    have := ih (pre ++ [c])
    show _
    rw [List.reverse_cons]
    have e : tale (w.reverse ++ [c]) = tale w.reverse ++ tf c (cnt w c) := by
      show wk tf [] _ = _
      rw [wk_app]
      simp only [wk, List.append_nil, List.nil_append]
      rw [cnt_reverse]
    rw [e]
    simp only [wk, List.map_append]
    refine List.Perm.trans ?_ List.perm_append_comm
    refine List.Perm.append (List.Perm.of_eq ?_) (by rw [List.append_assoc] at this; exact this)
    unfold tf
    split
    · simp only [List.map_cons, List.map_nil]
      rw [show ((c : Int) - 128 + 128).toNat = c from by (first | lia | omega), cnt_app, show c :: w = [c] ++ w from rfl, cnt_app, cnt_one, if_pos (Nat.le_refl _)]
      congr 2; (first | lia | omega)
    · rfl
theorem Sto.turn {h w : List Nat} {st T : List Pr} (s : Sto h w st) (hp : T.Perm (st.map fun x => (x.1, upF h.length st x.1 - 1 - x.2))) (hs : T.Pairwise fun a c => ¬ ltR c a) : Sto h.reverse w.reverse T := by
  have ht : (Pl.tale w.reverse).Perm T := by
    refine List.Perm.trans ?_ hp.symm
    refine List.Perm.trans (tale_reverse w []).symm ?_
    refine List.Perm.trans (s.tale.map _) ?_
    refine List.Perm.of_eq (List.map_congr_left fun x hx => ?_)
    obtain ⟨c, hc, e⟩ := tale_sign (s.tale.mem_iff.mpr hx)
    rw [e, s.upto hc, show ((c : Int) - 128 + 128).toNat = c from by (first | lia | omega), List.nil_append]
  exact ⟨sorted_up ht.symm hs, ht, by unfold Pl.asc; rw [List.filter_reverse]; exact congrArg _ s.asc⟩
/-- the strange signs, least first -/
theorem tale_signs (w : List Nat) : ∀ pre, (wk tf pre w).map (fun x => 128 + x.1) = (w.filter fun c => decide (127 < c)).map fun c : Nat => (c : Int) := by
  induction w with
  | nil => intro _; rfl
  | cons c w ih =>
    intro pre
    simp only [wk, List.map_append]
    rw [ih]
    unfold tf
    by_cases h1 : 127 < c
    · rw [if_pos h1, List.filter_cons_of_pos (by simpa using h1)]
      simp only [List.map_cons, List.map_nil, List.cons_append, List.nil_append]
      congr 1; (first | lia | omega)
    · rw [if_neg h1, List.filter_cons_of_neg (by simpa using h1)]; rfl
theorem Sto.signs {h w : List Nat} {st : List Pr} {T : List Int} (s : Sto h w st) (hp : T.Perm ((w.filter fun c => decide (127 < c)).map fun c : Nat => (c : Int))) (hs : T.Pairwise fun a c => a ≤ c) : T = st.map fun x => 128 + x.1 := by
  refine List.Perm.eq_of_pairwise (le := fun a c => a ≤ c) (fun a b _ _ h1 h2 => Int.le_antisymm h1 h2) hs ?_ ?_
  · rw [List.pairwise_map]
    exact s.up.imp fun {a c} h => by unfold ltR at h; (first | lia | omega)
  · refine hp.trans ?_
    rw [← tale_signs w []]
    exact s.tale.map _

abbrev Tr := Int × Int × Int
def t3 (pre : List Nat) : List Nat → List Tr
  | [] => []
  | c :: cs => (if 127 < c then [((c : Int), cnt pre c, (pre.length : Int))] else []) ++ t3 (pre ++ [c]) cs
end Pl
def g2 (x : Pl.Pr) : List Int := [x.1, x.2]
theorem perm_back {α β : Type} {g : α → β} {k : β → α} (hk : ∀ x, k (g x) = x) {xs : List α} {ys : List β} (h : ys.Perm (xs.map g)) : ∃ zs : List α, ys = zs.map g ∧ zs.Perm xs := by
  refine ⟨ys.map k, ?_, ?_⟩
  · rw [List.map_map]
    refine ((List.map_congr_left fun y hy => ?_).trans (List.map_id ys)).symm
    obtain ⟨x, _, rfl⟩ := List.mem_map.mp (h.mem_iff.mp hy)
    show g (k (g x)) = _
    rw [hk]; rfl
  · have := h.map k
    rw [List.map_map, show k ∘ g = id from funext hk, List.map_id] at this
    exact this
def k3 : List Int → Pl.Tr
  | [a, c, d] => (a, c, d)
  | _ => (0, 0, 0)
def k2 : List Int → Pl.Pr
  | [a, c] => (a, c)
  | _ => (0, 0)
theorem g2_lt {a c : Pl.Pr} (h : lexLt (g2 c) (g2 a) = false) : ¬ Pl.ltR c a := by
  unfold g2 at h
  simp only [lexLt] at h
  unfold Pl.ltR
  by_cases e : c.1 = a.1
  · rw [if_pos e] at h
    by_cases e2 : c.2 = a.2
    · omega
    · rw [if_neg e2] at h
      have := of_decide_eq_false h; omega
  · rw [if_neg e] at h
    have := of_decide_eq_false h; omega
theorem sort2 {xs : List Pl.Pr} {ys : List (List Int)} (h : SortOf (xs.map g2) ys) : ∃ T : List Pl.Pr, ys = T.map g2 ∧ T.Perm xs ∧ T.Pairwise fun a c => ¬ Pl.ltR c a := by
  obtain ⟨T, rfl, hp⟩ := perm_back (k := k2) (fun _ => rfl) h.1
  exact ⟨T, rfl, hp, (List.pairwise_map.mp h.2).imp g2_lt⟩
theorem ev_map {α β : Type} {R : Value → β → Prop} {g : α → β} {vs : List Value} {xs : List α} : Ev R vs (xs.map g) ↔ Ev (fun v x => R v (g x)) vs xs := by
  constructor
  · rintro ⟨h1, h2⟩
    exact ⟨by rw [h1, List.length_map], fun i v x hv hx => h2 i v (g x) hv (by rw [List.getElem?_map, hx]; rfl)⟩
  · rintro ⟨h1, h2⟩
    refine ⟨by rw [h1, List.length_map], fun i v x hv hx => ?_⟩
    rw [List.getElem?_map] at hx
    cases e : xs[i]? with
    | none => rw [e] at hx; cases hx
    | some y => rw [e] at hx; cases hx; exact h2 i v y hv e
section
variable {prog : Program} {w : World} {A : Around} {E : Value → Shared → Prop} {s : Shared} {env : Env} {s₀ : Shared} {b₀ b b' : Heap} {L : Addr} {own : List (Addr × Obj)} {m : Str → Option Value}
theorem sort_pairs {l : Addr} {xs : List Pl.Pr} {Q : Value → Shared → Prop} (F : Fm s₀ b₀ b L own m s) (hl : LP b l xs) (h64 : xs.length < 64)
    (h : ∀ D T b' s', b.StaysIn b' → Fm s₀ b₀ b' L own m s' → LP b' D T → T.Perm xs → (T.Pairwise fun a c => ¬ Pl.ltR c a) → Q (.ref D) s') : wpAny (model prog w) A (call (.builtin "sorted") [.ref l]) Q E s := by
  obtain ⟨vs, hl, ev⟩ := hl
  refine sort_tups (xs := xs.map g2) F ⟨vs, hl, ev_map.mpr ev⟩ (fun x hx => ?_) (by rw [List.length_map]; exact h64) fun D ys b' s' up F hl hs => ?_
  · obtain ⟨y, _, rfl⟩ := List.mem_map.mp hx; simp [g2]
  · obtain ⟨T, rfl, hp, hs⟩ := sort2 hs
    obtain ⟨us, hl, ev⟩ := hl
    exact h D T b' s' up F ⟨us, hl, by have := ev_map.mp ev; exact this⟩ hp hs
end
section
variable {prog : Program} {w : World} {A : Around} {E : Value → Shared → Prop} {s : Shared} {env : Env} {s₀ : Shared} {b₀ b b' : Heap} {L : Addr} {own : List (Addr × Obj)} {m : Str → Option Value}
/-- l[lo:hi], l any expression -/
theorem sub_lsliceT {value : PySem.Expr} {lower upper : Option PySem.Expr} {p pos : Pos} {Q : Value → Shared → Prop}
    (h : wpAny (model prog w) A (eval value env) (fun o s₁ => wpAny (model prog w) A (evalPart lower env) (fun vl s₂ => wpAny (model prog w) A (evalPart upper env) (fun vu s₃ =>
      ∃ s₀ b₀ L l, ∃ xs : List Value, ∃ lo hi b own m, o = .ref l ∧ b.IsList l xs.toArray ∧ xs.length ≤ 1000 ∧ IsPart vl lo ∧ IsPart vu hi ∧ Fm s₀ b₀ b L own m s₃ ∧
        ∀ a b' s', b.StaysIn b' → Fm s₀ b₀ b' L own m s' → b'.IsList a (slicePick xs.toArray lo hi none) → Q (.ref a) s') E s₂) E s₁) E s) : wpAny (model prog w) A (eval (.Subscript value (.Slice lower upper none p) pos) env) Q E s := by
  refine Subscript_ (wpAny_mono h (fun o s₁ h₁ => wpAny_Slice (wpAny_mono h₁ (fun vl s₂ h₂ => wpAny_mono h₂ (fun vu s₃ h₃ => wpAny_pure ?_) fun _ _ x => x) fun _ _ x => x)) fun _ _ x => x)
  obtain ⟨s₀, b₀, L, l, xs, lo, hi, b, own, m, rfl, hl, hz, pl, pu, F, hQ⟩ := h₃
  have hl' := IsList_keeps hl F.le
  refine tail_any (hl'.push _).typeIs list_getitem_lookup (wpAny_getItem_list_slice (hl'.push _) (Heap.IsSliceOf.new ..) pl pu .none (by simp) ?_ (by rw [List.size_toArray, sizeLine_eq]; omega)) rfl
  rw [Heap.size_push]
  obtain ⟨b', up, F', hl'⟩ := F.push2 { cls := .type "slice", data := .fields #[vl, vu, .none] } (vs := (slicePick xs.toArray lo hi none).toList)
  exact hQ _ b' _ up F' hl'
end
namespace Pl
theorem insL_build (ds : List Int) : ∀ (l : List Nat) (c p : Int), insL l c p ds = build l (stF l.length ((c - 128) * (l.length + 1) + p) ds) := by
  induction ds with
  | nil => intro l c p; rfl
  | cons d ds ih =>
    intro l c p
    have e1 : ((c - 128) * ((l.length : Int) + 1) + p + d + 1) / ((l.length : Int) + 1) = (c - 128) + (p + (d + 1)) / ((l.length : Int) + 1) := by
      rw [show (c - 128) * ((l.length : Int) + 1) + p + d + 1 = (p + (d + 1)) + (c - 128) * ((l.length : Int) + 1) from by (first | lia | omega), Int.add_mul_ediv_right _ _ (by (first | lia | omega)), Int.add_comm]
    have e2 : ((c - 128) * ((l.length : Int) + 1) + p + d + 1) % ((l.length : Int) + 1) = (p + (d + 1)) % ((l.length : Int) + 1) := by
      rw [show (c - 128) * ((l.length : Int) + 1) + p + d + 1 = (p + (d + 1)) + (c - 128) * ((l.length : Int) + 1) from by (first | lia | omega), Int.add_mul_emod_self_right]
    rw [insL, ih]
    simp only [stF, e1, e2]
    show _ = build (ins l _) _
    have e3 : l.take ((p + (d + 1)) % ((l.length : Int) + 1)).toNat ++ [(c + (p + (d + 1)) / ((l.length : Int) + 1)).toNat] ++ l.drop ((p + (d + 1)) % ((l.length : Int) + 1)).toNat = ins l (c - 128 + (p + (d + 1)) / ((l.length : Int) + 1), (p + (d + 1)) % ((l.length : Int) + 1)) := by
      unfold ins
      dsimp only
      rw [show 128 + (c - 128 + (p + (d + 1)) / ((l.length : Int) + 1)) = c + (p + (d + 1)) / ((l.length : Int) + 1) from by (first | lia | omega)]
    rw [e3, ins_length]
    congr 2
    rw [show c + (p + (d + 1)) / ((l.length : Int) + 1) - 128 = c - 128 + (p + (d + 1)) / ((l.length : Int) + 1) from by (first | lia | omega), show ((l.length + 1 : Nat) : Int) + 1 = l.length + 2 from by (first | lia | omega)]
theorem insL_eq (h : List Nat) (ds : List Int) : insL h 128 (-1) ds = build h (stF h.length (-1) ds) := by
  have := insL_build ds h 128 (-1)
  simpa using this
theorem insOk_of (ds : List Int) : ∀ (n : Nat) (c p : Int), (∀ x ∈ stF n ((c - 128) * (n + 1) + p) ds, 128 + x.1 ≤ 1114111) → insOk n c p ds := by
  induction ds with
  | nil => intro n c p _; trivial
  | cons d ds ih =>
    intro n c p h
    have e1 : ((c - 128) * ((n : Int) + 1) + p + d + 1) / ((n : Int) + 1) = (c - 128) + (p + (d + 1)) / ((n : Int) + 1) := by
      rw [show (c - 128) * ((n : Int) + 1) + p + d + 1 = (p + (d + 1)) + (c - 128) * ((n : Int) + 1) from by (first | lia | omega), Int.add_mul_ediv_right _ _ (by (first | lia | omega)), Int.add_comm]
    have e2 : ((c - 128) * ((n : Int) + 1) + p + d + 1) % ((n : Int) + 1) = (p + (d + 1)) % ((n : Int) + 1) := by
      rw [show (c - 128) * ((n : Int) + 1) + p + d + 1 = (p + (d + 1)) + (c - 128) * ((n : Int) + 1) from by (first | lia | omega), Int.add_mul_emod_self_right]
    simp only [stF, e1, e2] at h
    refine ⟨?_, ih (n + 1) _ _ fun x hx => h x (List.mem_cons_of_mem _ ?_)⟩
    · have := h _ List.mem_cons_self
      dsimp only at this; (first | lia | omega)
    · rw [show c + (p + (d + 1)) / ((n : Int) + 1) - 128 = c - 128 + (p + (d + 1)) / ((n : Int) + 1) from by (first | lia | omega), show ((n + 1 : Nat) : Int) + 1 = n + 2 from by (first | lia | omega)] at hx
      exact hx
theorem insOk_eq {n : Nat} {ds : List Int} (h : ∀ x ∈ stF n (-1) ds, 128 + x.1 ≤ 1114111) : insOk n 128 (-1) ds := insOk_of ds n 128 (-1) (by simpa using h)
end Pl
section
variable {prog : Program} {w : World} {A : Around} {E : Value → Shared → Prop} {s : Shared} {env : Env} {s₀ : Shared} {b₀ b b' : Heap} {L : Addr} {own : List (Addr × Obj)} {m : Str → Option Value}
theorem nm_cell {x : Str} {pos : Pos} {c : Addr} {v : Value} {Q : Value → Shared → Prop} (F : Fm s₀ b₀ b L own m s) (hk : env.scope.kind = .function) (hl : env.kindOf x = some .cell) (hc : env.cells.lookup x = some c) (hv : b.IsCell c (some v))
    (hd : (x == ("__debug__" : Str)) = false) (h : Q v s) : wpAny (model prog w) A (eval (.Name x pos) env) Q E s :=
  wpAny_Name (wpAny_loadName_cell hk hl hc (hv.keeps F.le) h) hd
/-- entering a def whose parameters are cells too -/
theorem enterC {Q : Value → Shared → Prop} {d : DefP} {a : Addr} {vals : List Value} {binds : List (Str × Value)} (st : b.StaysIn s.heap) (fn : IsFn b a d) (nl : b.NoLimit) (room : A.depth < recursionLimit)
    (hbind : ∀ pm cd doc, bindArgs (docDef d.name d.params d.body d.scope pm cd doc) ⟨vals, []⟩ = pure binds)
    (hkind : ∀ x ∈ binds, d.scope.names.lookup x.1 = some .local ∨ (d.scope.names.lookup x.1 = some .cell ∧ ∀ n, ((cellsFrom n d.scope.names []).lookup x.1).isSome = true)) (hco : d.scope.isCoroutine = false) (hgen : d.scope.isGenerator = false) (hk : d.scope.kind = .function)
    (h : ∀ L cd b' s₁, b.StaysIn b' → Fm s b b' L [] (bindL (envOfC d.name d.scope L a cd).kindOf binds fun _ => none) s₁ → (∀ n c, (cellsFrom (L + 1) d.scope.names []).lookup n = some c → b'.IsCell c (bindC (envOfC d.name d.scope L a cd).kindOf binds (fun _ => none) n)) →
      wpAny (model prog w) (A.deeper (envOfC d.name d.scope L a cd)) (execs d.body (envOfC d.name d.scope L a cd)) (fun fl s' => Q (match fl with | .ret v => v | _ => .none) s') (fun _ _ => False) s₁) : wpAny (model prog w) A (call (.ref a) vals) Q E s := by
  obtain ⟨o, pm, cd, doc, h2, h3, h4⟩ := fn.keeps st
  refine wpAny_call (call_cells_ret room h2 h3 (nl.keeps st) h4 (hbind _ _ _) (fun x hx => (hkind x hx).imp id fun q => ⟨q.1, q.2 _⟩) (fun h₁ tk F X => ?_) hco hgen hk)
  have keep : s.heap.StaysIn h₁ := fun p o e => (F.keep p o e)
  refine wpAny_mono (h s.heap.objs.size cd (only h₁ fun x => (∃ o, b.get? x = some o) ∨ s.heap.objs.size < x) _ ?_ ⟨F.ns, ⟨Keeps.mk' keep ⟨rfl, rfl, rfl⟩, ?_, only_le, ?_⟩, ⟨none_size, ?_⟩, fun p hp => (nomatch hp), List.Pairwise.nil⟩ ?_) (fun _ _ q => q) fun _ _ q => q
  · exact fun p o e => only_iff.mpr ⟨.inl ⟨o, e⟩, keep _ _ (st _ _ e)⟩
  · exact fun p o e => only_iff.mpr ⟨.inl ⟨o, e⟩, keep _ _ (st _ _ e)⟩
  · intro p o e
    obtain ⟨q, e⟩ := only_iff.mp e
    rcases q with ⟨o', q⟩ | q
    · have := keep _ _ (st _ _ q); rw [e] at this; cases this; exact .inl q
    · right
      cases z : s.heap.get? p with
      | none => rfl
      | some o => exact absurd (Heap.lt_size z) (Nat.not_lt.mpr (Nat.le_of_lt q))
  · cases z : (only h₁ fun x => (∃ o, b.get? x = some o) ∨ s.heap.objs.size < x).get? s.heap.objs.size with
    | none => rfl
    | some o =>
      rcases (only_iff.mp z).1 with ⟨o', q⟩ | q
      · exact absurd (Heap.lt_size (st _ _ q)) (Nat.lt_irrefl _)
      · exact absurd q (Nat.lt_irrefl _)
  · intro n c e
    obtain ⟨o, ho, hd⟩ := X.cell n c e
    exact ⟨o, only_iff.mpr ⟨.inr (X.above n c (mem_of_lookup e)), ho⟩, hd⟩
theorem divmod_ii {x y : Int} {t u : Tok} {Q : Value → Shared → Prop} (F : Fm s₀ b₀ b L own m s) (h0 : 0 < y) (h1 : y < 1073741824) (h : ∀ T b' s', b.StaysIn b' → Fm s₀ b₀ b' L own m s' → TupI b' T [x / y, x % y] → Q (.ref T) s') :
    wpAny (model prog w) A (call (.builtin "divmod") [.int x t, .int y u]) Q E s := by
  refine divmod_int (by omega) ?_ (Or.inl (PyProof.noPylong_small (by omega)))
  obtain ⟨b', up, F', g⟩ := F.pushKnow { cls := .type "tuple", data := .seq #[.int (x.fdiv y) s.toks, .int (x.fmod y) (s.toks + 1)] } (s.toks + 1 + 1) rfl
  refine h _ b' _ up F' ⟨[.int (x.fdiv y) s.toks, .int (x.fmod y) (s.toks + 1)], ⟨_, g, rfl, 0, rfl⟩, ?_⟩
  rw [Int.fdiv_eq_ediv_of_nonneg _ (by omega), Int.fmod_eq_emod_of_nonneg _ (by omega)]
  exact .cons _ _ (.cons _ _ .nil)
end
section
variable {prog : Program} {w : World} {A : Around} {E : Value → Shared → Prop} {s : Shared} {env : Env} {s₀ : Shared} {b₀ b b' : Heap} {L : Addr} {own : List (Addr × Obj)} {m : Str → Option Value}
theorem sort_ints {l : Addr} {ns : List Int} {Q : Value → Shared → Prop} (F : Fm s₀ b₀ b L own m s) (hl : LI b l ns) (h64 : ns.length < 64)
    (h : ∀ D ms b' s', b.StaysIn b' → Fm s₀ b₀ b' L own m s' → LI b' D ms → ms.Perm ns → ms.Pairwise (· ≤ ·) → Q (.ref D) s') : wpAny (model prog w) A (call (.builtin "sorted") [.ref l]) Q E s := by
  obtain ⟨vs, hl, ev⟩ := hl
  refine sorted_ints (IsList_keeps hl F.le) ev.ints (by rw [ev.len]; exact h64) fun out ns' a1 a2 a3 => ?_
  obtain ⟨e, he⟩ := sortedAll_at s.heap vs out
  have k : Keeps s { s with heap := sortedAll s.heap vs out } := Keeps.mk' (fun p o q => sortedAll_old q) ⟨rfl, rfl, rfl⟩
  have n : s.heap.get? (s.heap.objs.size + 1) = none := by
    cases z : s.heap.get? (s.heap.objs.size + 1) with
    | none => rfl
    | some o => exact absurd (Heap.lt_size z) (Nat.not_lt.mpr (Nat.le_succ _))
  refine h _ ns' _ _ ?_ (F.know k n) ⟨out.toList, ?_, ints_ev a1⟩ a2 a3
  · exact fun p o q => only_iff.mpr ⟨.inl ⟨o, q⟩, sortedAll_old (F.le _ _ q)⟩
  · exact ⟨_, only_iff.mpr ⟨.inr rfl, he⟩, rfl, e, by simp⟩
theorem pick_rev {l : List Nat} : (slicePicked (S l) none none (some (-1, (0 : Tok)))).filterMap ((S l).cps[·]?) = l.reverse := by
  unfold slicePicked Builtin.Str.strSliceIndices
  simp only [Option.map_none, Option.map_some, Option.getD_some]
  rw [S_len]
  unfold sliceRange
  have e0 : ¬ ((-1 : Int) > 0) := by decide
  simp only [e0, if_false]
  have ec : (if (l.length : Int) - 1 > -1 then ((l.length : Int) - 1 - -1 - -1 - 1) / (-(-1)) else 0).toNat = l.length := by
    rw [show (-(-1) : Int) = 1 from rfl, Int.ediv_one]
    split <;> omega
  rw [ec]
  apply List.ext_getElem?
  intro i
  have : ((List.range l.length).map fun (k : Nat) => ((l.length : Int) - 1 + -1 * (k : Int)).toNat).filterMap ((S l).cps[·]?) = (List.range l.length).map fun k => l.getD (l.length - 1 - k) 0 := by
    rw [List.filterMap_map]
    have aux : ∀ n, n ≤ l.length → (List.range n).filterMap (((S l).cps[·]?) ∘ fun (k : Nat) => ((l.length : Int) - 1 + -1 * (k : Int)).toNat) = (List.range n).map fun k => l.getD (l.length - 1 - k) 0 := by
      intro n
      induction n with
      | zero => intro _; rfl
      | succ n ih =>
        intro hn
        rw [List.range_succ, List.filterMap_append, List.map_append, ih (by omega)]
        congr 1
        have h2 : l.length - 1 - n < l.length := by omega
        have h3 : ((l.length : Int) - 1 + -1 * (n : Int)).toNat = l.length - 1 - n := by omega
        rw [List.filterMap_cons, Function.comp_apply, h3]
        simp [S, h2]
    exact aux _ (Nat.le_refl _)
  rw [this]
  by_cases hi : i < l.length
  · have h2 : l.length - 1 - i < l.length := by omega
    rw [List.getElem?_reverse hi]
    simp [hi, h2]
  · rw [List.getElem?_eq_none (by simp; omega), List.getElem?_eq_none (by simp; omega)]
theorem sub_srev {value st : PySem.Expr} {p pos : Pos} {Q : Value → Shared → Prop}
    (h : wpAny (model prog w) A (eval value env) (fun o s₁ => wpAny (model prog w) A (eval st env) (fun vs s₃ =>
      ∃ s₀ b₀ L k t u b own m, o = .str (S k) t ∧ vs = .int (-1) u ∧ k.length ≤ 1000000 ∧ Fm s₀ b₀ b L own m s₃ ∧ ∀ t' s', Fm s₀ b₀ b L own m s' → Q (.str (S k.reverse) t') s') E s₁) E s) :
    wpAny (model prog w) A (eval (.Subscript value (.Slice none none (some st) p) pos) env) Q E s := by
  refine Subscript_ (wpAny_mono h (fun o s₁ h₁ => wpAny_Slice (part_none (part_none (part_some (wpAny_mono h₁ (fun vs s₃ h₃ => ?_) fun _ _ x => x))))) fun _ _ x => x)
  obtain ⟨s₀, b₀, L, k, t, u, b, own, m, rfl, rfl, hz, F, hQ⟩ := h₃
  refine tail_any (typeIs_str _ _ _) PySem.F.slot_str_getitem.lookup (wpAny_getItem_str_slice (l := none) (u := none) (st := some (-1, u)) ⟨_, Heap.get?_push_size _ rfl, rfl, rfl⟩ rfl ?_) rfl
  have e : slicePicked (S k) none none (some (-1, u)) = slicePicked (S k) none none (some (-1, (0 : Tok))) := rfl
  unfold sliceMade
  rw [if_neg (by simp), e, pick_rev]
  refine ⟨?_, hQ _ _ (F.keeps (Keeps.mk' (fun _ _ q => Heap.get?_push_of_some _ q) ⟨rfl, rfl, rfl⟩))⟩
  show (S k.reverse).length ≤ sizeLine
  rw [S_len, List.length_reverse, sizeLine_eq]; omega
theorem compareK {l r : PySem.Expr} {op : CmpOp} {pos : Pos} {Q : Value → Shared → Prop}
    (h : wpK (model prog w) A (eval l env) (fun a s₁ => wpAny (model prog w) A (eval r env) (fun b s₂ => wpAny (model prog w) A (compareOp op a b) Q E s₂) E s₁) E s)
    (hm : behindInMarks op r = false := by with_unfolding_all rfl) : wpK (model prog w) A (eval (.Compare l [op] [r] pos) env) Q E s := fun Γ p hΓ hk => by
  simp only [eval_Compare1, markedBehindIn_of_false hm, Sem.wp_bind', Sem.wp_holding, Sem.wp_cmd_standAt, Sem.wp_operate]
  exact Sem.wp_mono _ Γ _ (fun a p₁ s₁ h₁ => Sem.wp_mono _ Γ _ (fun b _ s₂ h₂ => h₂ Γ _ hΓ) (fun _ _ _ h' => h') _ _ (h₁ Γ p₁ hΓ))
    (fun _ _ _ h' => h') _ _ (h Γ p hΓ hk)
theorem andK {e₁ e₂ : PySem.Expr} {rest : List PySem.Expr} {pos : Pos} {Q : Value → Shared → Prop}
    (h : wpK (model prog w) A (eval e₁ env) (fun v s₁ => wpAny (model prog w) A (truthy v) (fun c s₂ => if c = true then wpK (model prog w) A (eval (.BoolOp .And (e₂ :: rest) pos) env) Q E s₂ else Q v s₂) E s₁) E s) :
    wpK (model prog w) A (eval (.BoolOp .And (e₁ :: e₂ :: rest) pos) env) Q E s := by
  show wpK _ A (do
    let v ← eval e₁ env
    standAt pos
    let c ← holding [v] (truthy v)
    match BoolOp.And, c with
    | .And, false | .Or, true => Pure.pure v
    | _, _ => boolOp pos .And (eval e₂ env :: evalEach rest env)) Q E s
  refine wpK.bind (wpK.mono h (fun v s₁ h₁ => wpK.bindA (wpAny_standAt (wpK.bindA (wpAny_holding (wpAny_mono h₁ (fun c s₂ h₂ => ?_) fun _ _ x => x))))) fun _ _ x => x)
  cases c with
  | false => simp only [Bool.false_eq_true, if_false] at h₂; exact wpK.pure h₂
  | true => simp only [if_true] at h₂; exact h₂
end
namespace Pl
theorem stF_le2 (ds : List Int) (M : Int) : ∀ (n : Nat) (s p : Int), 1 ≤ n → p ≤ n → (∀ d ∈ ds, 0 ≤ d ∧ d ≤ M) → ∀ x ∈ stF n (s * (n + 1) + p) ds, x.1 ≤ s + ds.length * (M / 2 + 1) := by
  induction ds with
  | nil => intro n s p _ _ _ x hx; exact nomatch hx
  | cons d ds ih =>
    intro n s p n1 p1 hd x hx
    have d0 := hd d (by simp)
    have m0 : 0 ≤ (s * (n + 1) + p + d + 1) % ((n : Int) + 1) := Int.emod_nonneg _ (by (first | lia | omega))
    have m1 : (s * (n + 1) + p + d + 1) % ((n : Int) + 1) < n + 1 := Int.emod_lt_of_pos _ (by (first | lia | omega))
    have hq : (s * (n + 1) + p + d + 1) / ((n : Int) + 1) ≤ s + (M / 2 + 1) := by
      have : (s * (n + 1) + p + d + 1) / ((n : Int) + 1) < s + (M / 2 + 1) + 1 := by
        refine Int.ediv_lt_of_lt_mul (by (first | lia | omega)) ?_
        have e : (s + (M / 2 + 1) + 1) * ((n : Int) + 1) = s * (n + 1) + (M / 2 + 2) * (n + 1) := by rw [show s + (M / 2 + 1) + 1 = s + (M / 2 + 2) from by (first | lia | omega), Int.add_mul]
        have e3 : (M / 2 + 1) * 2 ≤ (M / 2 + 1) * ((n : Int) + 1) := Int.mul_le_mul_of_nonneg_left (by (first | lia | omega)) (by (first | lia | omega))
        have e2 : (M / 2 + 2) * ((n : Int) + 1) = (M / 2 + 1) * (n + 1) + (n + 1) := by rw [show M / 2 + 2 = (M / 2 + 1) + 1 from by (first | lia | omega), Int.add_mul, Int.one_mul]
        (first | lia | omega)
      (first | lia | omega)
    have hx : x ∈ (_, _) :: stF (n + 1) _ ds := hx
    generalize (s * (n + 1) + p + d + 1) % ((n : Int) + 1) = r at *
    generalize (s * (n + 1) + p + d + 1) / ((n : Int) + 1) = q at *
    have el : ((d :: ds).length : Int) * (M / 2 + 1) = ds.length * (M / 2 + 1) + (M / 2 + 1) := by rw [List.length_cons, Int.natCast_add, Int.add_mul]; simp
    rw [el]
    have el0 : 0 ≤ (ds.length : Int) * (M / 2 + 1) := Int.mul_nonneg (by (first | lia | omega)) (by (first | lia | omega))
    rcases List.mem_cons.mp hx with rfl | hx
    · dsimp only; (first | lia | omega)
    · have := ih (n + 1) q r (by (first | lia | omega)) (by (first | lia | omega)) (fun y hy => hd y (by simp [hy])) x (by rw [show ((n + 1 : Nat) : Int) + 1 = n + 2 from by (first | lia | omega)]; exact hx)
      (first | lia | omega)
theorem stF_small {ds : List Int} {n : Nat} (hd : ∀ d ∈ ds, 0 ≤ d ∧ d < 7001) (hl : ds.length ≤ 5) : ∀ x ∈ stF n (-1) ds, x.1 ≤ 21004 := by
  have hd' : ∀ d ∈ ds, 0 ≤ d ∧ d ≤ 7000 := fun d h => by have := hd d h; (first | lia | omega)
  cases n with
  | succ n =>
    intro x hx
    have := stF_le2 ds 7000 (n + 1) 0 (-1) (by (first | lia | omega)) (by (first | lia | omega)) hd' x (by simpa using hx)
    (first | lia | omega)
  | zero =>
    cases ds with
    | nil => intro x hx; exact nomatch hx
    | cons d ds =>
      intro x hx
      have d0 := hd' d (by simp)
      simp only [stF] at hx
      have e1 : ((-1 : Int) + d + 1) / ((0 : Nat) + 1 : Int) = d := by simp; (first | lia | omega)
      have e2 : ((-1 : Int) + d + 1) % ((0 : Nat) + 1 : Int) = 0 := by simp
      rw [e1, e2] at hx
      rcases List.mem_cons.mp hx with rfl | hx
      · dsimp only; (first | lia | omega)
      · have := stF_le2 ds 7000 1 d 0 (by (first | lia | omega)) (by (first | lia | omega)) (fun y hy => hd' y (by simp [hy])) x (by simpa using hx)
        rw [List.length_cons] at hl; (first | lia | omega)
def Small (w : List Nat) : Prop := ∀ c ∈ w, (c : Int) ≤ 128 + 21004
theorem Sto.small {h w : List Nat} {st : List Pr} (x : Sto h w st) (s : Small w) : ∀ y ∈ st, y.1 ≤ 21004 := by
  intro y hy
  obtain ⟨a, c, b, rfl, _, rfl⟩ := tale_split (x.tale.mem_iff.mpr hy)
  have := s c (by simp)
  dsimp only; (first | lia | omega)
theorem Sto.of_small {h w : List Nat} {st : List Pr} (x : Sto h w st) (s : ∀ y ∈ st, y.1 ≤ 21004) : Small w := by
  intro c hc
  rcases Nat.lt_or_ge 127 c with h | h
  · obtain ⟨k, hk⟩ := tale_has hc h
    have := s _ (x.tale.mem_iff.mp hk)
    dsimp only at this; (first | lia | omega)
  · (first | lia | omega)
theorem Sto.nums {h w : List Nat} {st : List Pr} (x : Sto h w st) (s : Small w) (hl : h.length + st.length ≤ 16) : ∀ d ∈ numF h.length (-1) st, 0 ≤ d ∧ d < 500000 := by
  intro d hd
  have := numF_ok0 (B := 21004) (N := 16) x.ok x.up (x.small s) (by (first | lia | omega)) (by decide) d hd
  (first | lia | omega)
theorem Sto.row {h : List Nat} {ds : List Int} (ha : ∀ c ∈ h, c < 128) (hd : ∀ d ∈ ds, 0 ≤ d) : Sto h (Pl.build h (stF h.length (-1) ds)) (stF h.length (-1) ds) :=
  Sto.of ha (stF_ok0 hd).2 (stF_ok0 hd).1
theorem Small.take {w : List Nat} (s : Small w) (k : Nat) : Small (w.take k) := fun c hc => s c (List.mem_of_mem_take hc)
theorem Small.drop {w : List Nat} (s : Small w) (k : Nat) : Small (w.drop k) := fun c hc => s c (List.mem_of_mem_drop hc)
theorem Small.rev {w : List Nat} (s : Small w) : Small w.reverse := fun c hc => s c (by simpa using hc)
theorem Small.app {w w' : List Nat} (s : Small w) (s' : Small w') : Small (w ++ w') := fun c hc => (List.mem_append.mp hc).elim (s c) (s' c)
end Pl
theorem upF_take {st : List Pl.Pr} {size s : Int} {i : Nat} {x : Pl.Pr} (h : st[i]? = some x) : Pl.upF size (st.take (i + 1)) s = Pl.upF size (st.take i) s + (if x.1 ≤ s then 1 else 0) := by
  unfold Pl.upF
  rw [List.take_add_one, h, List.countP_append]
  simp only [Option.toList_some, List.countP_cons, List.countP_nil]
  by_cases e : x.1 ≤ s <;> simp [e]; omega
theorem upto1_con {w : World} {A : Around} {E : Value → Shared → Prop} {s₀ : Shared} {b : Heap} {mg mb : Str → Option Value} {a l : Addr} {st1 : List Pl.Pr} {size sign : Int} {t u : Tok} (st : b.StaysIn s₀.heap) (G : Gl P 30 mg mb b) (R : Rm A 1) (fn : IsFn b a (defAt P 12))
    (hI : LP b l st1) :
    wpAny (model P w) A (call (.ref a) [.int size t, .ref l, .int sign u]) (fun v s' => ∃ k b', v = .int (Pl.upF size st1 sign) k ∧ Ex s₀ b s' b') E s₀ := by
  refine enter (binds := [("size", .int size t), ("story", .ref l), ("sign", .int sign u)]) st fn G.nolimit R.room (fun _ _ _ => rfl) rfl rfl rfl rfl (by decide) ?_
  intro L cd s₁ F
  rw [binds3] at F
  refine genA (R.deep _) fun A R => ?_
  refine cps fun Q hQ => ?_
  obtain ⟨vs, hvs, ev⟩ := hI
  refine wpAny_execs_cons ?_
  refine for_iter (s₀ := s₀) (b₀ := b) (L := L) (n := vs.toArray.size) (P := fun i v => vs.toArray[i]? = some v) (fun i b' own m => b' = b ∧ own = [] ∧ (∃ t, m "size" = some (.int (Pl.upF size (st1.take i) sign) t)) ∧ (∃ t, m "sign" = some (.int sign t))) ?_ ?_ ?_ (.inr ⟨_, _, _, rfl⟩) (fun _ => rfl)
  · walk_at "xs"
    exact ⟨_, _, _, F, ⟨rfl, rfl, ⟨_, look_there (by kernel_rfl) (look_there (by kernel_rfl) (look_int (by simp [Pl.upF])))⟩, ⟨_, by walk_at "look"⟩⟩, iter_list R.handled F.le hvs⟩
  · clear F
    rintro i v b' own m ios s hi hv ⟨rfl, rfl, ⟨t1, e1⟩, ⟨t2, e2⟩⟩ F B hB
    have hv : vs[i]? = some v := by simpa using hv
    obtain ⟨x, hx, T, rfl, hU⟩ := ev.getV hv
    obtain ⟨t3, t4, hT⟩ := tup2 hU
    refine unpack2 F R.handled rfl rfl (by kernel_rfl) (by kernel_rfl) hT fun s F => ?_
    walk_at "xs"
    · exact hB _ _ ⟨_, _, _, StaysIn.refl _, ⟨rfl, rfl, ⟨_, look_int (by rw [upF_take hx, if_pos (by assumption)])⟩, ⟨_, by walk_at "look"⟩⟩, F⟩
    · exact hB _ _ ⟨_, _, _, StaysIn.refl _, ⟨rfl, rfl, ⟨_, by rw [upF_take hx, if_neg (by assumption), Int.add_zero]; walk_at "look"⟩, ⟨_, by walk_at "look"⟩⟩, F⟩
  · clear F
    rintro b' own m s ⟨rfl, rfl, ⟨t1, e1⟩, _⟩ F
    rw [List.take_of_length_le (by simp [ev.len])] at e1
    walk_at "xs"
    exact hQ _ _ ⟨t1, b', rfl, F.ex⟩
theorem story1_con {w : World} {A : Around} {E : Value → Shared → Prop} {s₀ : Shared} {b : Heap} {mg mb : Str → Option Value} {a l : Addr} {ns : List Int} {n : Nat} {t : Tok} (st : b.StaysIn s₀.heap) (G : Gl P 30 mg mb b) (R : Rm A 1) (fn : IsFn b a (defAt P 10))
    (hI : LI b l ns) (hz : ns.length ≤ 100) (hn : n ≤ 100) :
    wpAny (model P w) A (call (.ref a) [.int ((n : Nat) : Int) t, .ref l]) (fun v s' => ∃ D b', v = .ref D ∧ LP b' D (Pl.stF n (-1) ns) ∧ Ex s₀ b s' b') E s₀ := by
  refine enter (binds := [("size", .int ((n : Nat) : Int) t), ("numbers", .ref l)]) st fn G.nolimit R.room (fun _ _ _ => rfl) rfl rfl rfl rfl (by decide) ?_
  intro L cd s₁ F
  rw [binds2] at F
  refine genA (R.deep _) fun A R => ?_
  refine cps fun Q hQ => ?_
  obtain ⟨vs, hvs, ev⟩ := hI
  have hvl := ev.len
  refine wpAny_execs_cons ?_
  walk_at "xs"
  refine new_listO F (Nat.zero_le _) ?_
  intro r s F
  walk_at "xs"
  refine for_iter (s₀ := s₀) (b₀ := b) (L := L) (n := vs.toArray.size) (P := fun i v => vs.toArray[i]? = some v) (fun i b' own m => b.StaysIn b' ∧ ∃ ys k zs h, own = [(r, lobj ys k)] ∧ ys.length ≤ i ∧ i ≤ 100 ∧ Pl.stF n (-1) ns = zs ++ Pl.stF (n + i) h (ns.drop i) ∧ Ev (PairV b') ys zs ∧ m "story" = some (.ref r) ∧ (∃ t, m "size" = some (.int ((n + i : Nat) : Int) t)) ∧ (∃ t, m "hour" = some (.int h t))) ?_ ?_ ?_ (.inl ⟨_, _, rfl⟩) (fun _ => rfl)
  · walk_at "xs"
    exact ⟨_, _, _, F, ⟨StaysIn.refl _, [], _, [], -1, rfl, Nat.le_refl _, Nat.zero_le _, rfl, .nil, by walk_at "look", ⟨_, by rw [Nat.add_zero]; walk_at "look"⟩, ⟨_, by walk_at "look"⟩⟩, iter_list R.handled F.le hvs⟩
  · clear F
    rintro i v b₁ own m ios s hi hv ⟨up, ys, k, zs, h, rfl, hyl, hi1, hs, hy, e1, ⟨t1, e2⟩, ⟨t2, e3⟩⟩ F B hB
    have G := G.keeps up
    have hv : vs[i]? = some v := by simpa using hv
    obtain ⟨d, hd, td, rfl⟩ := ev.getV hv
    have hin : i < ns.length := (List.getElem?_eq_some_iff.mp hd).1
    have hdr : ns.drop i = d :: ns.drop (i + 1) := by
      rw [List.drop_eq_getElem_cons hin]; congr 1
      rw [List.getElem?_eq_getElem hin] at hd; exact Option.some.inj hd
    rw [hdr] at hs
    simp only [Pl.stF] at hs
    have F : Fm s₀ b b₁ L ((r, lobj ys k) :: ios) m s := F
    refine lc_assign_name F rfl rfl (by kernel_rfl) fun s F => ?_
    walk_at "xs"
    refine Assign_Tuple ?_ ?hs1 ?hw1
    case hs1 => rfl
    case hw1 => rfl
    walk_at "ct"
    refine divmod_ii F (by omega) (by omega) ?_
    intro T b₂ s u F hT
    have G := G.keeps u
    have hT' := hT
    obtain ⟨t3, t4, hT⟩ := tup2 hT
    refine unpack2 F R.handled rfl rfl (by kernel_rfl) (by kernel_rfl) hT fun s F => ?_
    have e0 : h + (d + 1) = h + d + 1 := by omega
    rw [e0] at F hT'
    walk_at "xs"
    refine st_append ?_ _ (by rfl) (by rfl)
    walk_at "xs"
    refine ⟨r, _, _, _, _, _, _, _, _, rfl, F, ?_⟩
    walk_at "xs"
    refine new_tuple F (small_len (by simp)) ?_
    intro T2 b₃ s u2 F hT2
    refine ⟨_, _, _, _, _, _, _, _, F, by omega, fun s F => ?_⟩
    walk_at "xs"
    have F : Fm s₀ b b₃ L ([(r, lobj (ys ++ [Value.ref T2]) (k + 1))] ++ ios) _ s := F
    refine hB _ _ ?_
    refine ⟨b₃, _, _, StaysIn.trans u u2, ⟨StaysIn.trans up (StaysIn.trans u u2), _, _, zs ++ [((h + d + 1) / ((n + i : Nat) + 1 : Int), (h + d + 1) % ((n + i : Nat) + 1 : Int))], _, rfl, by rw [List.length_append]; exact Nat.succ_le_succ hyl, by simp at hi; omega, ?_, (hy.mono fun v x q => q.keeps (StaysIn.trans u u2)).snoc ⟨T2, rfl, _, hT2, ints2 rfl rfl⟩, by walk_at "look", ⟨_, look_there (by kernel_rfl) (look_int (by omega))⟩, ⟨_, look_here⟩⟩, F⟩
    rw [hs, List.append_assoc]
    congr 1
  · clear F
    rintro b₁ own m s ⟨up, ys, k, zs, h, rfl, hyl, hi1, hs, hy, e1, _, _⟩ F
    rw [List.drop_eq_nil_of_le (by simp [hvl])] at hs
    simp only [Pl.stF, List.append_nil] at hs
    rw [hs] at hQ
    walk_at "xs"
    obtain ⟨b₂, up2, F, hl⟩ := F.freezeL
    exact hQ _ _ ⟨r, b₂, rfl, ⟨ys, hl, hy.mono fun v x q => q.keeps up2⟩, F.ex⟩
theorem drop_back {α : Type} {l : List α} {i : Nat} {x : α} (hi : i < l.length) (hx : l[l.length - 1 - i]? = some x) : l.drop (l.length - (i + 1)) = x :: l.drop (l.length - i) := by
  have h1 : l.length - (i + 1) < l.length := by omega
  rw [List.drop_eq_getElem_cons h1, show l.length - (i + 1) + 1 = l.length - i from by omega]
  congr 1
  rw [show l.length - 1 - i = l.length - (i + 1) from by omega, List.getElem?_eq_getElem h1] at hx
  exact Option.some.inj hx
theorem iter_rev {w : World} {A : Around} {b : Heap} {s : Shared} {r : Addr} {n : Nat} (hh : A.handled = none) (le : b.StaysIn s.heap) (hr : RangeK b r ((n : Int) - 1) (-1) (-1)) (hn : n ≤ 1000) : IterOf P w A (.ref r) b n (fun i v => ∃ t, v = .int ((n : Int) - 1 + (i : Nat) * (-1)) t) s := by
  have hs : Builtin.Range.rangeSize ((n : Int) - 1) (-1) (-1) = n := by
    unfold Builtin.Range.rangeSize
    rw [if_neg (by decide)]
    by_cases h : 0 < n
    · rw [if_pos (by omega)]
      rw [show (n : Int) - 1 - -1 - 1 = n - 1 from by omega, show (-(-1) : Int) = 1 from rfl, Int.ediv_one]; omega
    · rw [if_neg (by omega)]; omega
  refine iter_range (prog := P) (w := w) hh le (n := n) hr ?_ hs
  unfold Builtin.Range.small Builtin.Range.rangeFitsLong
  rw [hs]
  simp only [Bool.and_eq_true, Bool.or_eq_true, decide_eq_true_eq]
  rw [if_neg (by decide)]
  simp
  omega
theorem cut1_con {w : World} {A : Around} {E : Value → Shared → Prop} {s₀ : Shared} {b : Heap} {mg mb : Str → Option Value} {a l : Addr} {st1 : List Pl.Pr} {spot : Int} {t : Tok} (st : b.StaysIn s₀.heap) (G : Gl P 30 mg mb b) (R : Rm A 1) (fn : IsFn b a (defAt P 15))
    (hI : LP b l st1) (hz : st1.length ≤ 100) :
    wpAny (model P w) A (call (.ref a) [.ref l, .int spot t]) (fun v s' => ∃ T lf rt t b', v = .ref T ∧ b'.IsTuple T #[.int (Pl.cutF spot st1).1 t, .ref lf, .ref rt] ∧ LP b' lf (Pl.cutF spot st1).2.1 ∧ LP b' rt (Pl.cutF spot st1).2.2 ∧ Ex s₀ b s' b') E s₀ := by
  refine enter (binds := [("story", .ref l), ("spot", .int spot t)]) st fn G.nolimit R.room (fun _ _ _ => rfl) rfl rfl rfl rfl (by decide) ?_
  intro L cd s₁ F
  rw [binds2] at F
  refine genA (R.deep _) fun A R => ?_
  refine cps fun Q hQ => ?_
  obtain ⟨vs, hvs, ev⟩ := hI
  have hvl := ev.len
  refine wpAny_execs_cons ?_
  walk_at "xs"
  refine new_list F (by simp) ?_
  intro l0 b1 s u1 F hl0
  have G := G.keeps u1
  walk_at "xs"
  refine new_list F (by simp) ?_
  intro r0 b2 s u2 F hr0
  have G := G.keeps u2
  have hvs := IsList_keeps hvs (StaysIn.trans u1 u2)
  have hl0 := IsList_keeps hl0 u2
  have up := StaysIn.trans u1 u2
  walk_at "xs"
  refine for_iter (s₀ := s₀) (b₀ := b) (L := L) (n := vs.length) (P := fun i v => ∃ t, v = .int ((vs.length : Int) - 1 + (i : Nat) * (-1)) t) (fun i b' own m => b2.StaysIn b' ∧ own = [] ∧ ∃ q lf rt, (st1.drop (st1.length - i)).foldr Pl.cutS (spot, [], []) = q ∧ q.2.1.length ≤ i ∧ q.2.2.length ≤ i ∧ LP b' lf q.2.1 ∧ LP b' rt q.2.2 ∧ m "left" = some (.ref lf) ∧ m "right" = some (.ref rt) ∧ m "story" = some (.ref l) ∧ (∃ t, m "spot" = some (.int q.1 t))) ?_ ?_ ?_ (.inl ⟨_, _, rfl⟩) (fun _ => rfl)
  · walk_at "ct"
    walk_at "len"
    walk_at "xs"
    refine range3 F (by decide) (by decide) ?_
    intro q b3 s u3 F hr
    refine ⟨b3, _, _, F, ⟨u3, rfl, (spot, [], []), l0, r0, by rw [Nat.sub_zero, List.drop_length]; rfl, Nat.le_refl _, Nat.le_refl _, ⟨[], IsList_keeps hl0 u3, .nil⟩, ⟨[], IsList_keeps hr0 u3, .nil⟩, by walk_at "look", by walk_at "look", by walk_at "look", ⟨_, by walk_at "look"⟩⟩, iter_rev R.handled F.le hr (by omega)⟩
  · clear F
    rintro i v b3 own m ios s hi ⟨tv, rfl⟩ ⟨u3, rfl, q, lf, rt, hq, hq1, hq2, hlf, hrt, e1, e2, e3, ⟨t4, e4⟩⟩ F B hB
    have G := G.keeps u3
    have hvs := IsList_keeps hvs u3
    have hidx : ((vs.length : Int) - 1 + (i : Nat) * (-1)).toNat = st1.length - 1 - i := by omega
    have hix : st1.length - 1 - i < st1.length := by omega
    obtain ⟨x, hx⟩ : ∃ x, st1[st1.length - 1 - i]? = some x := ⟨_, List.getElem?_eq_getElem hix⟩
    obtain ⟨v, hv, T, rfl, hU⟩ := ev.get hx
    have hdb := drop_back (by omega) hx
    have hU := TupI.keeps hU (StaysIn.trans up u3)
    obtain ⟨t5, t6, hT⟩ := tup2 hU
    refine lc_assign_name F rfl rfl (by kernel_rfl) fun s F => ?_
    walk_at "x"
    refine Assign_Tuple ?_ ?hs1 ?hw1
    case hs1 => rfl
    case hw1 => rfl
    walk_at "xs"
    refine item_l F hvs (by omega) (by omega) (by rw [hidx]; exact hv) (by with_unfolding_all rfl) ?_
    refine unpack2 F R.handled rfl rfl (by kernel_rfl) (by kernel_rfl) hT fun s F => ?_
    obtain ⟨v1, hv1, ev1⟩ := id hlf
    obtain ⟨v2, hv2, ev2⟩ := id hrt
    have y1 := ev1.len
    have y2 := ev2.len
    walk_at "xs"
    · refine new_tuple F (small_len (by simp)) ?_
      intro T2 b4 s u4 F hT2
      walk_at "xs"
      refine new_list F (by simp) ?_
      intro q5 b5 s u5 F hq5
      walk_at "xs"
      refine add_lists F hq5 (IsList_keeps hv1 (StaysIn.trans u4 u5)) (by simp; omega) ?_
      intro q6 b6 s u6 F hq6
      walk_at "xs"
      have uu := StaysIn.trans u4 (StaysIn.trans u5 u6)
      refine hB _ _ ?_
      refine ⟨b6, _, _, uu, ⟨StaysIn.trans u3 uu, rfl, Pl.cutS x q, q6, rt, ?_, ?_, ?_, ?_, ?_, by walk_at "look", by walk_at "look", by walk_at "look", ⟨_, look_int ?_⟩⟩, F⟩
      · rw [hdb, List.foldr_cons, hq]
      · unfold Pl.cutS; rw [if_pos (by omega)]; simp; omega
      · unfold Pl.cutS; rw [if_pos (by omega)]; dsimp only; omega
      · unfold Pl.cutS; rw [if_pos (by omega)]
        exact ⟨_, hq6, .cons ⟨T2, rfl, _, IsTuple_keeps hT2 (StaysIn.trans u5 u6), ints2 rfl rfl⟩ (ev1.mono fun v x h => h.keeps uu)⟩
      · unfold Pl.cutS; rw [if_pos (by omega)]; exact LP_keeps hrt uu
      · unfold Pl.cutS; rw [if_pos (by omega)]
    · refine new_tuple F (small_len (by simp)) ?_
      intro T2 b4 s u4 F hT2
      walk_at "xs"
      refine new_list F (by simp) ?_
      intro q5 b5 s u5 F hq5
      walk_at "xs"
      refine add_lists F hq5 (IsList_keeps hv2 (StaysIn.trans u4 u5)) (by simp; omega) ?_
      intro q6 b6 s u6 F hq6
      walk_at "xs"
      have uu := StaysIn.trans u4 (StaysIn.trans u5 u6)
      refine hB _ _ ?_
      refine ⟨b6, _, _, uu, ⟨StaysIn.trans u3 uu, rfl, Pl.cutS x q, lf, q6, ?_, ?_, ?_, ?_, ?_, by walk_at "look", by walk_at "look", by walk_at "look", ⟨_, by unfold Pl.cutS; rw [if_neg (by omega)]; walk_at "look"⟩⟩, F⟩
      · rw [hdb, List.foldr_cons, hq]
      · unfold Pl.cutS; rw [if_neg (by omega)]; dsimp only; omega
      · unfold Pl.cutS; rw [if_neg (by omega)]; simp; omega
      · unfold Pl.cutS; rw [if_neg (by omega)]; exact LP_keeps hlf uu
      · unfold Pl.cutS; rw [if_neg (by omega)]
        exact ⟨_, hq6, .cons ⟨T2, rfl, _, IsTuple_keeps hT2 (StaysIn.trans u5 u6), ints2 rfl rfl⟩ (ev2.mono fun v x h => h.keeps uu)⟩
  · clear F
    rintro b3 own m s ⟨u3, rfl, q, lf, rt, hq, _, _, hlf, hrt, e1, e2, e3, ⟨t4, e4⟩⟩ F
    have hq : Pl.cutF spot st1 = q := by rw [← hq, hvl, Nat.sub_self, List.drop_zero]; rfl
    rw [hq] at hQ
    walk_at "xs"
    refine new_tuple F (small_len (by simp)) ?_
    intro T b4 s u4 F hT
    exact hQ _ _ ⟨T, lf, rt, t4, b4, rfl, hT, LP_keeps hlf u4, LP_keeps hrt u4, F.ex⟩
theorem join1_con {w : World} {A : Around} {E : Value → Shared → Prop} {s₀ : Shared} {b : Heap} {mg mb : Str → Option Value} {a l k : Addr} {st1 st2 : List Pl.Pr} {size : Int} {t : Tok} (st : b.StaysIn s₀.heap) (G : Gl P 30 mg mb b) (R : Rm A 2) (fn : IsFn b a (defAt P 13))
    (hI : LP b l st1) (hK : LP b k st2) (hz : st1.length + st2.length < 64) :
    wpAny (model P w) A (call (.ref a) [.int size t, .ref l, .ref k]) (fun v s' => ∃ D T b', v = .ref D ∧ LP b' D T ∧ T.Perm (st1 ++ st2.map fun x => (x.1, x.2 + Pl.upF size st1 x.1)) ∧ (T.Pairwise fun a c => ¬ Pl.ltR c a) ∧ Ex s₀ b s' b') E s₀ := by
  refine enterC (binds := [("size", .int size t), ("story", .ref l), ("behind", .ref k)]) st fn G.nolimit R.room (fun _ _ _ => rfl) ?_ rfl rfl rfl ?_
  · intro x hx
    rcases List.mem_cons.mp hx with rfl | hx
    · exact .inr ⟨by kernel_rfl, fun n => rfl⟩
    rcases List.mem_cons.mp hx with rfl | hx
    · exact .inr ⟨by kernel_rfl, fun n => rfl⟩
    obtain rfl := List.mem_singleton.mp hx
    exact .inl (by kernel_rfl)
  intro L cd b1 s₁ up1 F hC
  have G := G.keeps up1
  have hm : (bindL (envOfC (defAt P 13).name (defAt P 13).scope L a cd).kindOf [("size", .int size t), ("story", .ref l), ("behind", .ref k)] fun _ => none) = upd nomap "behind" (.ref k) := by
    with_unfolding_all rfl
  rw [hm] at F
  have c1 : b1.IsCell (L + 1) (some (.int size t)) := by
    have := hC "size" (L + 1) rfl
    exact this
  have c2 : b1.IsCell (L + 2) (some (.ref l)) := by
    have := hC "story" (L + 2) rfl
    exact this
  clear hC
  refine genA (R.deep _) fun A R => ?_
  refine cps fun Q hQ => ?_
  have hI := LP_keeps hI up1
  have hK := LP_keeps hK up1
  obtain ⟨v1, hv1, ev1⟩ := id hI
  obtain ⟨v2, hv2, ev2⟩ := id hK
  have y1 := ev1.len
  have y2 := ev2.len
  refine wpAny_execs_cons ?_
  walk_at "x"
  walk_at "ct"
  refine nm_cell F rfl (by kernel_rfl) rfl c2 (by kernel_rfl) ?_
  refine lc_eval (cl := [("story", L + 2), ("size", L + 1)]) ?_ ?_ (by decide +kernel) rfl (by decide +kernel) (.inr ⟨_, _, _, rfl⟩) (fun _ => rfl)
  rotate_left
  · rfl
  walk_at "xs"
  refine ⟨_, _, _, _, _, _, _, _, fun i b ys => Ev (PairV b) ys ((st2.take i).map fun x => (x.1, x.2 + Pl.upF size st1 x.1)), F, ?_, .nil, iter_list R.handled F.le hv2, ?_, ?_⟩
  · simp; omega
  · intro i v b' C D oL ys k' m' ios s E hi hv hJ nL up F
    have G := G.keeps up
    have hv : v2[i]? = some v := by simpa using hv
    obtain ⟨x, hx, T, rfl, hU⟩ := ev2.getV hv
    obtain ⟨t1, t2, hT⟩ := tup2 (hU.keeps up)
    refine unpack2 F R.handled rfl rfl (by kernel_rfl) (by kernel_rfl) hT fun s F => ?_
    walk_at "xs"
    refine call_def (by assumption) (by assumption) (G.fn 12 (by decide) rfl) rfl rfl rfl rfl (by decide) rfl rfl ?_
    intro a12 fn
    walk_at "x"
    refine nm_cell F rfl (by kernel_rfl) rfl (c1.keeps up) (by kernel_rfl) ?_
    walk_at "x"
    refine nm_cell F rfl (by kernel_rfl) rfl (c2.keeps up) (by kernel_rfl) ?_
    walk_at "xs"
    refine ⟨F.le, wpAny_mono (upto1_con F.le G (R.le (by decide)) fn (LP_keeps hI up)) (fun v s h => ?_) (fun _ _ x => x)⟩
    obtain ⟨t3, b2, rfl, xx⟩ := h
    have F := F.call xx
    have up2 := xx.up
    clear xx fn
    walk_at "xs"
    refine new_tuple F (small_len (by simp)) fun T' b3 s up3 F hT' => ?_
    refine ⟨b3, _, StaysIn.trans up2 up3, ?_, F⟩
    change Ev (PairV b3) _ ((st2.take (i + 1)).map fun x => (x.1, x.2 + Pl.upF size st1 x.1))
    rw [List.take_add_one, hx, List.map_append]
    exact (Ev.mono hJ fun v x h => h.keeps (StaysIn.trans up2 up3)).snoc ⟨T', rfl, _, hT', ints2 rfl rfl⟩
  · intro b' b'' D ys s up hJ _ up' hl' F
    have hJ : Ev (PairV b') ys ((st2.take v2.toArray.size).map fun x => (x.1, x.2 + Pl.upF size st1 x.1)) := hJ
    rw [List.take_of_length_le (by simp [y2])] at hJ
    have uu := StaysIn.trans up up'
    have y3 := hJ.len
    rw [List.length_map] at y3
    refine add_lists F (IsList_keeps hv1 uu) hl' (by omega) ?_
    intro q b4 s u4 F hq
    walk_at "xs"
    refine sort_pairs F ⟨_, hq, (ev1.mono fun v x h => h.keeps (StaysIn.trans uu u4)).app (hJ.mono fun v x h => h.keeps (StaysIn.trans up' u4))⟩ (by rw [List.length_append, List.length_map]; omega) ?_
    intro D T b5 s u5 F hD hp hs
    exact hQ _ _ ⟨D, T, b5, rfl, hD, hp, hs, F.ex⟩
theorem turn1_con {w : World} {A : Around} {E : Value → Shared → Prop} {s₀ : Shared} {b : Heap} {mg mb : Str → Option Value} {a l : Addr} {st1 : List Pl.Pr} {size : Int} {t : Tok} (st : b.StaysIn s₀.heap) (G : Gl P 30 mg mb b) (R : Rm A 2) (fn : IsFn b a (defAt P 14))
    (hI : LP b l st1) (hz : st1.length < 64) :
    wpAny (model P w) A (call (.ref a) [.int size t, .ref l]) (fun v s' => ∃ D T b', v = .ref D ∧ LP b' D T ∧ T.Perm (st1.map fun x => (x.1, Pl.upF size st1 x.1 - 1 - x.2)) ∧ (T.Pairwise fun a c => ¬ Pl.ltR c a) ∧ Ex s₀ b s' b') E s₀ := by
  refine enterC (binds := [("size", .int size t), ("story", .ref l)]) st fn G.nolimit R.room (fun _ _ _ => rfl) ?_ rfl rfl rfl ?_
  · intro x hx
    rcases List.mem_cons.mp hx with rfl | hx
    · exact .inr ⟨by kernel_rfl, fun n => rfl⟩
    obtain rfl := List.mem_singleton.mp hx
    exact .inr ⟨by kernel_rfl, fun n => rfl⟩
  intro L cd b1 s₁ up1 F hC
  have G := G.keeps up1
  have hm : (bindL (envOfC (defAt P 14).name (defAt P 14).scope L a cd).kindOf [("size", .int size t), ("story", .ref l)] fun _ => none) = nomap := by
    with_unfolding_all rfl
  rw [hm] at F
  have c1 : b1.IsCell (L + 1) (some (.int size t)) := by
    have := hC "size" (L + 1) rfl
    exact this
  have c2 : b1.IsCell (L + 2) (some (.ref l)) := by
    have := hC "story" (L + 2) rfl
    exact this
  clear hC
  refine genA (R.deep _) fun A R => ?_
  refine cps fun Q hQ => ?_
  have hI := LP_keeps hI up1
  obtain ⟨v1, hv1, ev1⟩ := id hI
  have y1 := ev1.len
  refine wpAny_execs_cons ?_
  walk_at "x"
  walk_at "ct"
  refine lc_eval (cl := [("story", L + 2), ("size", L + 1)]) ?_ ?_ (by decide +kernel) rfl (by decide +kernel) (.inr ⟨_, _, _, rfl⟩) (fun _ => rfl)
  rotate_left
  · rfl
  refine nm_cell F rfl (by kernel_rfl) rfl c2 (by kernel_rfl) ?_
  refine ⟨_, _, _, _, _, _, _, _, fun i b ys => Ev (PairV b) ys ((st1.take i).map fun x => (x.1, Pl.upF size st1 x.1 - 1 - x.2)), F, ?_, .nil, iter_list R.handled F.le hv1, ?_, ?_⟩
  · simp; omega
  · intro i v b' C D oL ys k' m' ios s E hi hv hJ nL up F
    have G := G.keeps up
    have hv : v1[i]? = some v := by simpa using hv
    obtain ⟨x, hx, T, rfl, hU⟩ := ev1.getV hv
    obtain ⟨t1, t2, hT⟩ := tup2 (hU.keeps up)
    refine unpack2 F R.handled rfl rfl (by kernel_rfl) (by kernel_rfl) hT fun s F => ?_
    walk_at "xs"
    refine call_def (by assumption) (by assumption) (G.fn 12 (by decide) rfl) rfl rfl rfl rfl (by decide) rfl rfl ?_
    intro a12 fn
    walk_at "x"
    refine nm_cell F rfl (by kernel_rfl) rfl (c1.keeps up) (by kernel_rfl) ?_
    walk_at "x"
    refine nm_cell F rfl (by kernel_rfl) rfl (c2.keeps up) (by kernel_rfl) ?_
    walk_at "xs"
    refine ⟨F.le, wpAny_mono (upto1_con F.le G (R.le (by decide)) fn (LP_keeps hI up)) (fun v s h => ?_) (fun _ _ x => x)⟩
    obtain ⟨t3, b2, rfl, xx⟩ := h
    have F := F.call xx
    have up2 := xx.up
    clear xx fn
    walk_at "xs"
    refine new_tuple F (small_len (by simp)) fun T' b3 s up3 F hT' => ?_
    refine ⟨b3, _, StaysIn.trans up2 up3, ?_, F⟩
    change Ev (PairV b3) _ ((st1.take (i + 1)).map fun x => (x.1, Pl.upF size st1 x.1 - 1 - x.2))
    rw [List.take_add_one, hx, List.map_append]
    exact (Ev.mono hJ fun v x h => h.keeps (StaysIn.trans up2 up3)).snoc ⟨T', rfl, _, hT', ints2 rfl rfl⟩
  · intro b' b'' D ys s up hJ _ up' hl' F
    have hJ : Ev (PairV b') ys ((st1.take v1.toArray.size).map fun x => (x.1, Pl.upF size st1 x.1 - 1 - x.2)) := hJ
    rw [List.take_of_length_le (by simp [y1])] at hJ
    walk_at "xs"
    refine sort_pairs F ⟨_, hl', hJ.mono fun v x h => h.keeps up'⟩ (by rw [List.length_map]; omega) ?_
    intro D T b5 s u5 F hD hp hs
    exact hQ _ _ ⟨D, T, b5, rfl, hD, hp, hs, F.ex⟩
theorem byteArr_lab {h : List Nat} (ha : ∀ c ∈ h, c < 128) (x : Array UInt8) : (PySem.byteArr (h.map fun c => ((c : Nat) : Int)) ++ x).toList = h.map (·.toUInt8) ++ x.toList := by
  have : (PySem.byteArr (h.map fun c => ((c : Nat) : Int))).toList = h.map (·.toUInt8) := by
    simp [PySem.byteArr, Nat.toUInt8]
  rw [Array.toList_append, this]
theorem text1_con {w : World} {A : Around} {E : Value → Shared → Prop} {s₀ : Shared} {b : Heap} {mg mb : Str → Option Value} {a l : Addr} {h : List Nat} {th : Tok} {st1 : List Pl.Pr} (st : b.StaysIn s₀.heap) (G : Gl P 30 mg mb b) (R : Rm A 5) (fn : IsFn b a (defAt P 11))
    (hs : ∀ x ∈ st1, x.1 < 1000000) (hn : ∀ d ∈ Pl.numF h.length (-1) st1, 0 ≤ d ∧ d < 500000) (hlen : st1.length ≤ 32) (hl : h.length ≤ 31) (ha : ∀ c ∈ h, c < 128) (hI : LP b l st1) (hst : Pl.Ok h.length st1) :
    wpK (model P w) A (PySem.call (.ref a) [.str (S h) th, .ref l]) (fun v s' => ∃ k b', v = .str (S (Pl.build h st1)) k ∧ Ex s₀ b s' b') E s₀ := by
  refine enterK (binds := [("head", .str (S h) th), ("story", .ref l)]) st fn G.nolimit R.room (fun _ _ _ => rfl) rfl rfl rfl rfl (by decide) ?_
  intro L cd s₁ F
  rw [binds2] at F
  refine genK (R.deep _) fun A R => ?_
  refine cpsK fun Q hQ => ?_
  obtain ⟨vs, hvs, ev⟩ := hI
  have hvl := ev.len
  have hok : insOk h.length 128 (-1) (Pl.numF h.length (-1) st1) := Pl.insOk_eq fun x hx => by
    rw [Pl.stF_num st1 _ _ hst] at hx
    have := hs x hx; omega
  have hins : insL h 128 (-1) (Pl.numF h.length (-1) st1) = Pl.build h st1 := by rw [Pl.insL_eq, Pl.stF_num st1 _ _ hst]
  refine stepK ?_
  walk_at "xs"
  walk_at "len"
  walk_at "xs"
  refine stepK ?_
  walk_at "xs"
  refine stepK ?_
  walk_at "xs"
  refine new_listO F (Nat.zero_le _) ?_
  intro r s F
  walk_at "xs"
  refine stepK ?_
  refine for_iter (s₀ := s₀) (b₀ := b) (L := L) (n := vs.toArray.size) (P := fun i v => vs.toArray[i]? = some v) (fun i b' own m => b.StaysIn b' ∧ ∃ ys k zs hr, own = [(r, lobj ys k)] ∧ ys.length ≤ i ∧ i ≤ 32 ∧ Pl.numF h.length (-1) st1 = zs ++ Pl.numF (h.length + i) hr (st1.drop i) ∧ Ev IntV ys zs ∧ m "numbers" = some (.ref r) ∧ (∃ t, m "size" = some (.int ((h.length + i : Nat) : Int) t)) ∧ (∃ t, m "hour" = some (.int hr t)) ∧ m "head" = some (.str (S h) th)) ?_ ?_ ?_ (.inr ⟨_, _, _, rfl⟩) (fun _ => rfl)
  · walk_at "xs"
    exact ⟨_, _, _, F, ⟨StaysIn.refl _, [], _, [], -1, rfl, Nat.le_refl _, Nat.zero_le _, rfl, .nil, by walk_at "look", ⟨_, by rw [Nat.add_zero]; walk_at "look"⟩, ⟨_, by walk_at "look"⟩, by walk_at "look"⟩, iter_list R.handled F.le hvs⟩
  · clear F
    rintro i v b₁ own m ios s hi hv ⟨up, ys, k, zs, hr, rfl, hyl, hi1, hs, hy, e1, ⟨t1, e2⟩, ⟨t2, e3⟩, e4⟩ F B hB
    have G := G.keeps up
    have hv : vs[i]? = some v := by simpa using hv
    obtain ⟨x, hx, T, rfl, hU⟩ := ev.getV hv
    obtain ⟨t3, t4, hT⟩ := tup2 (hU.keeps up)
    have hin : i < st1.length := (List.getElem?_eq_some_iff.mp hx).1
    have hdr : st1.drop i = x :: st1.drop (i + 1) := by
      rw [List.drop_eq_getElem_cons hin]; congr 1
      rw [List.getElem?_eq_getElem hin] at hx; exact Option.some.inj hx
    rw [hdr] at hs
    simp only [Pl.numF] at hs
    have F : Fm s₀ b b₁ L ((r, lobj ys k) :: ios) m s := F
    refine unpack2 F R.handled rfl rfl (by kernel_rfl) (by kernel_rfl) hT fun s F => ?_
    walk_at "x"
    refine st_append ?_ _ (by rfl) (by rfl)
    walk_at "xs"
    refine ⟨r, _, _, _, _, _, _, _, _, rfl, F, ?_⟩
    walk_at "xs"
    refine ⟨_, _, _, _, _, _, _, _, F, by omega, fun s F => ?_⟩
    walk_at "xs"
    have F : Fm s₀ b b₁ L ([(r, lobj (ys ++ [Value.int (x.1 * (((h.length + i : Nat) : Int) + 1) + x.2 - hr - 1) _]) (k + 1))] ++ ios) _ s := F
    refine hB _ _ ?_
    refine ⟨b₁, _, _, StaysIn.refl _, ⟨up, _, _, zs ++ [x.1 * (((h.length + i : Nat) : Int) + 1) + x.2 - hr - 1], _, rfl, by rw [List.length_append]; exact Nat.succ_le_succ hyl, by omega, ?_, hy.snoc ⟨_, rfl⟩, by walk_at "look", ⟨_, look_there (by kernel_rfl) (look_int (by omega))⟩, ⟨_, look_here⟩, by walk_at "look"⟩, F⟩
    rw [hs, List.append_assoc]
    congr 1
  clear F
  rintro b₁ own m s ⟨up, ys, k, zs, hr, rfl, hyl, hi1, hs, hy, e1, _, _, e4⟩ F
  rw [List.drop_eq_nil_of_le (by simp [hvl])] at hs
  simp only [Pl.numF, List.append_nil] at hs
  obtain ⟨b₂, up2, F, hl2⟩ := F.freezeL
  have up := StaysIn.trans up up2
  have G := G.keeps up
  have hz : (Pl.numF h.length (-1) st1).length ≤ 32 := by rw [Pl.numF_length]; exact hlen
  rw [← hs] at hy
  rw [← hins] at hQ
  clear hs
  generalize Pl.numF h.length (-1) st1 = ns at hn hok hy hz hins hQ
  clear hins
  refine consK (assignK (callK (by assumption) (by assumption) (G.fn 5 (by decide) rfl) rfl rfl rfl rfl (by decide) rfl rfl rfl ?_))
  intro a5 fn5
  walk_at "xs"
  walk_at "len"
  walk_at "xs"
  refine ⟨F.le, wpK.mono (gen_con F.le G (R.le (by decide)) fn5 (by omega) (by omega) hl2 hy.ints hn hz) (fun v s h => ?_) (fun _ _ x => x)⟩
  obtain ⟨x, k, rfl, hx, xx⟩ := h
  have F := F.call xx
  walk_at "xks"
  refine t_str F (by omega) fun s F => ?_
  have hbig : (genB h.length ns 0 72).length ≤ 16000000 := by
    have := genB_len h.length 500000 ns 0 72 fun x hx => by have := hn x hx; omega
    omega
  have hxs : x.size ≤ 16000000 := by rw [← Array.length_toList, hx]; exact hbig
  refine if_bool (fun hc => ?_) (fun hc => ?_)
  · have hne : h ≠ [] := by rintro rfl; simp at hc
    have ha' : ∀ c ∈ h ++ [45], c < 128 := fun c hc => by
      rcases List.mem_append.mp hc with hc | hc
      · exact ha c hc
      · obtain rfl := List.mem_singleton.mp hc; omega
    walk_at "xks"
    refine ct_type rfl rfl rfl ?_
    walk_at "x"
    refine ⟨_, rfl, ?_⟩
    walk_at "xs"
    refine lc_eval (cl := []) ?_ (closureFor_none (by decide +kernel)) (by decide +kernel) rfl (by decide +kernel) (.inl ⟨_, _, rfl⟩) (fun _ => rfl)
    walk_at "xs"
    rw [show (Str.ofString "-") = S [45] from by decide +kernel]
    refine s_addS F (by simp; omega) ?_
    intro t s F
    refine ⟨_, _, _, _, _, _, _, SignAt (S (h ++ [45])), fun i b ys => Ev IntV ys (((h ++ [45]).take i).map fun c => ((c : Nat) : Int)), F, ?_, .nil, iter_str R.handled, ?_, ?_⟩
    · simp [S]; omega
    · intro i v b' C D oL ys k' m' ios s E hi hv hJ nL up F
      have G := G.keeps up
      obtain ⟨c, t, hc, rfl⟩ := signAt hv
      refine lc_assign_name F rfl rfl (by kernel_rfl) fun s F => ?_
      walk_at "ct"
      refine o_ord F rfl ?_
      intro t s F
      refine ⟨b', _, StaysIn.refl _, ?_, F⟩
      change Ev IntV _ (((h ++ [45]).take (i + 1)).map fun c => ((c : Nat) : Int))
      rw [List.take_add_one, hc, List.map_append]
      exact hJ.snoc ⟨_, rfl⟩
    · intro b' b'' D ys s up hJ _ up' hl' F
      have G := G.keeps (StaysIn.trans up up')
      have hI : LI b'' D ((h ++ [45]).map fun c => ((c : Nat) : Int)) := ⟨ys, hl', by
        have hJ := hJ
        rw [List.take_of_length_le (by simp [S])] at hJ; exact hJ⟩
      walk_at "xs"
      refine bytes_ints R.handled F hI ?_ (by simp; omega) ?_
      · intro n hn
        obtain ⟨c, hc, rfl⟩ := List.mem_map.mp hn
        rcases List.mem_append.mp hc with hc | hc
        · have := ha c hc; omega
        · obtain rfl := List.mem_singleton.mp hc; omega
      intro t s F
      walk_at "xs"
      refine by_add F ?_ ?_
      · have h1 : (PySem.byteArr ((h ++ [45]).map fun c => ((c : Nat) : Int))).size = h.length + 1 := by simp [PySem.byteArr]
        rw [h1]; omega
      intro t s F
      walk_at "xks"
      refine call_def (by assumption) (by assumption) (G.fn 8 (by decide) rfl) rfl rfl rfl rfl (by decide) rfl rfl ?_
      intro a8 fn8
      walk_at "xs"
      refine ⟨F.le, wpAny_mono (puny_con (h := h) (ns := ns) F.le G R fn8 hn hz (by omega) ha ?_ hok) (fun v s h => ?_) (fun _ _ x => x)⟩
      · rw [byteArr_lab ha' x, hx]; unfold lab; rw [if_neg hne]; simp
      · obtain ⟨k, b', rfl, xx⟩ := h
        exact hQ _ _ ⟨_, _, rfl, (F.call xx).ex⟩
  · have hne : h = [] := by simpa using hc
    walk_at "xks"
    refine call_def (by assumption) (by assumption) (G.fn 8 (by decide) rfl) rfl rfl rfl rfl (by decide) rfl rfl ?_
    intro a8 fn8
    walk_at "xs"
    refine ⟨F.le, wpAny_mono (puny_con (h := h) (ns := ns) F.le G R fn8 hn hz (by omega) ha ?_ hok) (fun v s h => ?_) (fun _ _ x => x)⟩
    · rw [hx]; unfold lab; rw [if_pos hne]
    · obtain ⟨k, b', rfl, xx⟩ := h
      exact hQ _ _ ⟨_, _, rfl, (F.call xx).ex⟩
theorem filter_take1 {l : List Nat} {p : Nat → Bool} {i c : Nat} (h : l[i]? = some c) : (l.take (i + 1)).filter p = (l.take i).filter p ++ (if p c = true then [c] else []) := by
  rw [List.take_add_one, h, List.filter_append]
  by_cases e : p c = true <;> simp [e]
abbrev e17 (L a : Addr) (cd : Value) : Env := envOf (defAt P 16).name (defAt P 16).scope L a cd
abbrev s17 (k : Nat) : List Stmt := (defAt P 16).body.drop k
theorem seg1e {w : World} {A : Around} {s₀ s : Shared} {b b1 : Heap} {mg mb : Str → Option Value} {L a : Addr} {cd : Value} {m : Str → Option Value} {hf hk w1 w2 wm : List Nat} {k : Nat} {lf tu wh : List Pl.Pr} {ll lt lw : Addr} {t1 t2 t3 t4 t5 t6 : Tok}
    (hb : b.StaysIn b1) (G : Gl P 30 mg mb b1) (R : Rm A 5) (F : Fm s₀ b b1 L [] m s)
    (e1 : m "front" = some (.str (S hf) t1)) (e2 : m "left" = some (.ref ll)) (e3 : m "a" = some (.str (S w1) t2)) (e4 : m "spot" = some (.int ((k : Nat) : Int) t3)) (e5 : m "back" = some (.str (S hk) t4)) (e6 : m "turned" = some (.ref lt)) (e7 : m "mixed" = some (.str (S wm) t5)) (e8 : m "b" = some (.str (S w2) t6)) (e9 : m "whole" = some (.ref lw))
    (h1 : LP b1 ll lf) (h2 : LP b1 lt tu) (h3 : LP b1 lw wh) (x1 : Pl.Sto hf (w1.take k) lf) (x2 : Pl.Sto hk (w1.drop k).reverse tu) (x3 : ∃ h, Pl.Sto h wm wh) (xm : wm = w1.take k ++ w2 ++ (w1.drop k).reverse)
    (sm : Pl.Small w1) (hkl : k ≤ w1.length) (z1 : w1.length ≤ 8) (z2 : w2.length ≤ 8) (z3 : hf.length ≤ 3) (z4 : hk.length ≤ 3) (z5 : lf.length ≤ 5) (z6 : tu.length ≤ 5) (z7 : wh.length ≤ 10) :
    wpK (model P w) A (execs (s17 17) (e17 L a cd)) (fun fl s' => ∃ b', (match fl with | .ret v => v | _ => .none) = .bool true ∧ Ex s₀ b s' b') (fun _ _ => False) s := by
  refine cpsK fun Q hQ => ?_
  refine consK (returnK (andK (compareK (callK (by assumption) (by assumption) (G.fn 11 (by decide) rfl) rfl rfl rfl rfl (by decide) rfl rfl rfl ?_))))
  intro a11 fn
  walk_at "xs"
  refine ⟨F.le, wpK.mono (text1_con F.le G R fn (fun x hx => by have := x1.small (sm.take k) x hx; omega) (x1.nums (sm.take k) (by omega)) (by omega) (by omega) x1.lt h1 x1.ok) (fun v s h => ?_) (fun _ _ x => x)⟩
  obtain ⟨t7, b2, rfl, xx⟩ := h
  have F := F.call xx
  have up := xx.up
  have G := G.keeps xx.up
  clear xx fn
  rw [x1.build]
  walk_at "sub_to"
  rw [Int.toNat_natCast]
  refine e_str ?_
  rw [decide_eq_true rfl]
  walk_at "xs"
  refine andK (compareK (callK (by assumption) (by assumption) (G.fn 11 (by decide) rfl) rfl rfl rfl rfl (by decide) rfl rfl rfl ?_))
  intro a11 fn
  walk_at "xs"
  refine ⟨F.le, wpK.mono (text1_con F.le G R fn (fun x hx => by have := x2.small (sm.drop k).rev x hx; omega) (x2.nums (sm.drop k).rev (by omega)) (by omega) (by omega) x2.lt (LP_keeps h2 up) x2.ok) (fun v s h => ?_) (fun _ _ x => x)⟩
  obtain ⟨t8, b3, rfl, xx⟩ := h
  have F := F.call xx
  have up := StaysIn.trans up xx.up
  have G := G.keeps xx.up
  clear xx fn
  rw [x2.build]
  refine sub_srev ?_
  walk_at "sub_from"
  rw [Int.toNat_natCast]
  walk_at "xs"
  refine ⟨_, _, _, _, _, _, _, _, _, rfl, rfl, by rw [List.length_drop]; omega, F, ?_⟩
  intro t s F
  refine e_str ?_
  rw [decide_eq_true rfl]
  walk_at "xs"
  refine wpK.of ?_
  refine BoolOp_and ?_
  walk_at "xs"
  walk_at "sub_to"
  rw [Int.toNat_natCast]
  walk_at "xs"
  refine sub_srev ?_
  walk_at "sub_from"
  rw [Int.toNat_natCast]
  walk_at "xs"
  refine ⟨_, _, _, _, _, _, _, _, _, rfl, rfl, by rw [List.length_drop]; omega, F, ?_⟩
  intro t s F
  refine s_addS F (by rw [List.length_append, List.length_reverse, List.length_take, List.length_drop]; omega) ?_
  intro t s F
  refine e_str ?_
  rw [decide_eq_true xm]
  walk_at "xs"
  refine BoolOp_one ?_
  walk_at "xs"
  obtain ⟨hm, x3⟩ := x3
  have hwm := x3.len
  have hml : wm.length ≤ 24 := by rw [xm, List.length_append, List.length_append, List.length_reverse, List.length_take, List.length_drop]; omega
  walk_at "ct"
  refine lc_evalT (cl := []) ?_ (closureFor_none (by decide +kernel)) (by decide +kernel) rfl (by decide +kernel) (.inl ⟨_, _, rfl⟩) (fun _ => rfl)
  walk_at "xs"
  refine ⟨_, _, _, _, _, _, _, SignAt (S wm), fun i b ys => Ev IntV ys (((wm.take i).filter fun c => decide (127 < c)).map fun c => ((c : Nat) : Int)), F, ?_, .nil, iter_str R.handled, ?_, ?_⟩
  · simp [S]; omega
  · intro i v b' C D oL ys k' m' ios s E hi hv hJ nL up F
    have G := G.keeps up
    obtain ⟨c, t, hcc, rfl⟩ := signAt hv
    refine lc_assign_name F rfl rfl (by kernel_rfl) fun s F => ?_
    walk_at "xs"
    walk_at "ct"
    refine o_ord F rfl ?_
    intro t' s F
    walk_at "xs"
    · walk_at "ct"
      refine o_ord F rfl ?_
      intro t' s F
      refine ⟨b', _, StaysIn.refl _, ?_, F⟩
      change Ev IntV _ (((wm.take (i + 1)).filter fun c => decide (127 < c)).map fun c => ((c : Nat) : Int))
      rw [filter_take1 hcc, if_pos (decide_eq_true (by omega)), List.map_append]
      exact hJ.snoc ⟨_, rfl⟩
    · refine ⟨b', _, StaysIn.refl _, ?_, F⟩
      change Ev IntV _ (((wm.take (i + 1)).filter fun c => decide (127 < c)).map fun c => ((c : Nat) : Int))
      rw [filter_take1 hcc, if_neg (by simp; omega), List.append_nil]
      exact hJ
  · intro b' b'' D ys s up5 hJ _ up' hl' F
    have hJ : Ev IntV ys (((wm.take (S wm).cps.size).filter fun c => decide (127 < c)).map fun c => ((c : Nat) : Int)) := hJ
    rw [List.take_of_length_le (by simp [S])] at hJ
    have G := G.keeps (StaysIn.trans up5 up')
    have up := StaysIn.trans up (StaysIn.trans up5 up')
    walk_at "xs"
    refine sort_ints F ⟨ys, hl', hJ⟩ (by rw [List.length_map]; exact Nat.lt_of_le_of_lt (List.length_filter_le ..) (by omega)) ?_
    intro D2 ms b4 s u4 F hD2 hp hs
    have G := G.keeps u4
    have up := StaysIn.trans up u4
    have hms := x3.signs hp hs
    have h3 := LP_keeps h3 up
    obtain ⟨v3, hv3, ev3⟩ := id h3
    have y3 := ev3.len
    refine lc_eval (cl := []) ?_ (closureFor_none (by decide +kernel)) (by decide +kernel) rfl (by decide +kernel) (.inr ⟨_, _, _, rfl⟩) (fun _ => rfl)
    walk_at "xs"
    refine ⟨_, _, _, _, _, _, _, _, fun i b ys => Ev IntV ys ((wh.take i).map fun x => 128 + x.1), F, ?_, .nil, iter_list R.handled F.le hv3, ?_, ?_⟩
    · simp; omega
    · intro i v b' C D oL ys k' m' ios s E hi hv hJ nL up F
      have G := G.keeps up
      have hv : v3[i]? = some v := by simpa using hv
      obtain ⟨x, hx, T, rfl, hU⟩ := ev3.getV hv
      obtain ⟨t1, t2, hT⟩ := tup2 (hU.keeps up)
      refine unpack2 F R.handled rfl rfl (by kernel_rfl) (by kernel_rfl) hT fun s F => ?_
      walk_at "xs"
      refine ⟨b', _, StaysIn.refl _, ?_, F⟩
      change Ev IntV _ ((wh.take (i + 1)).map fun x => 128 + x.1)
      rw [List.take_add_one, hx, List.map_append]
      exact hJ.snoc ⟨_, rfl⟩
    · intro b5 b6 D3 ys s up7 hJ _ up8 hl' F
      have hJ : Ev IntV ys ((wh.take v3.toArray.size).map fun x => 128 + x.1) := hJ
      rw [List.take_of_length_le (by simp [y3])] at hJ
      refine eq_ints R F (LI_keeps hD2 (StaysIn.trans up7 up8)) ⟨ys, hl', hJ⟩ ?_
      rw [hms, decide_eq_true rfl]
      exact hQ _ _ ⟨_, rfl, F.ex⟩
theorem seg1d {w : World} {A : Around} {s₀ s : Shared} {b b1 : Heap} {mg mb : Str → Option Value} {L a : Addr} {cd : Value} {m : Str → Option Value} {h1 h2 w1 w2 : List Nat} {k f : Nat} {lf rt ot : List Pl.Pr} {ll lr lo : Addr} {t1 t2 t3 t4 t5 t6 : Tok}
    (hb : b.StaysIn b1) (G : Gl P 30 mg mb b1) (R : Rm A 5) (F : Fm s₀ b b1 L [] m s)
    (e1 : m "one" = some (.str (S h1) t1)) (e2 : m "left" = some (.ref ll)) (e3 : m "a" = some (.str (S w1) t2)) (e4 : m "spot" = some (.int ((k : Nat) : Int) t3)) (e5 : m "few" = some (.int ((f : Nat) : Int) t4)) (e6 : m "right" = some (.ref lr)) (e7 : m "two" = some (.str (S h2) t5)) (e8 : m "b" = some (.str (S w2) t6)) (e9 : m "other" = some (.ref lo))
    (q1 : LP b1 ll lf) (q2 : LP b1 lr rt) (q3 : LP b1 lo ot) (x1 : Pl.Sto (h1.take f) (w1.take k) lf) (x2 : Pl.Sto (h1.drop f) (w1.drop k) rt) (x3 : Pl.Sto h2 w2 ot)
    (sm : Pl.Small w1) (sm2 : Pl.Small w2) (hkl : k ≤ w1.length) (hf : f ≤ h1.length) (z1 : w1.length ≤ 8) (z2 : w2.length ≤ 8) (z3 : h1.length ≤ 3) (z4 : h2.length ≤ 3) (z5 : lf.length + rt.length ≤ 5) (z6 : ot.length ≤ 5) :
    wpK (model P w) A (execs (s17 11) (e17 L a cd)) (fun fl s' => ∃ b', (match fl with | .ret v => v | _ => .none) = .bool true ∧ Ex s₀ b s' b') (fun _ _ => False) s := by
  refine cpsK fun Q hQ => ?_
  have hlt : (h1.take f).length = f := by rw [List.length_take]; omega
  have hld : (h1.drop f).length = h1.length - f := List.length_drop ..
  have hrl : (h1.drop f).reverse.length = h1.length - f := by rw [List.length_reverse]; exact hld
  refine stepK ?_
  walk_at "xs"
  walk_at "sub_to"
  rw [Int.toNat_natCast] at *
  walk_at "xs"
  refine stepK ?_
  walk_at "xs"
  refine sub_srev ?_
  walk_at "sub_from"
  rw [Int.toNat_natCast]
  walk_at "xs"
  refine ⟨_, _, _, _, _, _, _, _, _, rfl, rfl, by omega, F, ?_⟩
  intro t s F
  walk_at "xs"
  refine stepK ?_
  walk_at "xs"
  refine call_def (by assumption) (by assumption) (G.fn 14 (by decide) rfl) rfl rfl rfl rfl (by decide) rfl rfl ?_
  intro a14 fn
  walk_at "xs"
  walk_at "len"
  walk_at "xs"
  refine ⟨F.le, wpAny_mono (turn1_con F.le G (R.le (by decide)) fn q2 (by omega)) (fun v s h => ?_) (fun _ _ x => x)⟩
  obtain ⟨lt, T1, b2, rfl, hT1, hp1, hs1, xx⟩ := h
  have F := F.call xx
  have up := xx.up
  have G := G.keeps xx.up
  clear xx fn
  rw [List.length_reverse] at hp1
  have y1 := x2.turn hp1 hs1
  have l1 := hp1.length_eq
  rw [List.length_map] at l1
  walk_at "xs"
  refine stepK ?_
  walk_at "xs"
  refine call_def (by assumption) (by assumption) (G.fn 13 (by decide) rfl) rfl rfl rfl rfl (by decide) rfl rfl ?_
  intro a13 fn
  walk_at "xs"
  refine ⟨F.le, wpAny_mono (join1_con F.le G (R.le (by decide)) fn (LP_keeps q1 up) (LP_keeps q3 up) (by omega)) (fun v s h => ?_) (fun _ _ x => x)⟩
  obtain ⟨lj, J, b3, rfl, hJ, hp2, hs2, xx⟩ := h
  have F := F.call xx
  have up := StaysIn.trans up xx.up
  have G := G.keeps xx.up
  have hT1 := LP_keeps hT1 xx.up
  clear xx fn
  have y2 := x1.join x3 (by rw [hlt]; exact hp2) hs2
  have l2 := hp2.length_eq
  rw [List.length_append, List.length_map] at l2
  walk_at "xs"
  refine stepK ?_
  walk_at "xs"
  refine call_def (by assumption) (by assumption) (G.fn 13 (by decide) rfl) rfl rfl rfl rfl (by decide) rfl rfl ?_
  intro a13 fn
  walk_at "xs"
  walk_at "len"
  walk_at "xs"
  refine ⟨F.le, wpAny_mono (join1_con F.le G (R.le (by decide)) fn hJ hT1 (by omega)) (fun v s h => ?_) (fun _ _ x => x)⟩
  obtain ⟨lw, W, b4, rfl, hW, hp3, hs3, xx⟩ := h
  have F := F.call xx
  have up := StaysIn.trans up xx.up
  have G := G.keeps xx.up
  have hT1 := LP_keeps hT1 xx.up
  clear xx fn hJ
  have y3 := y2.join y1 (by rw [List.length_append, hlt, Int.natCast_add]; exact hp3) hs3
  have l3 := hp3.length_eq
  rw [List.length_append, List.length_map] at l3
  walk_at "xs"
  have sw := ((sm.take k).app sm2).app (sm.drop k).rev
  refine consK (assignK (callK (by assumption) (by assumption) (G.fn 11 (by decide) rfl) rfl rfl rfl rfl (by decide) rfl rfl rfl ?_))
  intro a11 fn
  have hall : ((h1.take f ++ h2) ++ (h1.drop f).reverse).length = h1.length + h2.length := by rw [List.length_append, List.length_append, List.length_reverse, hlt, hld]; omega
  walk_at "xs"
  refine ⟨F.le, wpK.mono (text1_con F.le G R fn (fun x hx => by have := y3.small sw x hx; omega) (y3.nums sw (by omega)) (by omega) (by omega) y3.lt hW y3.ok) (fun v s h => ?_) (fun _ _ x => x)⟩
  obtain ⟨t8, b5, rfl, xx⟩ := h
  have F := F.call xx
  have up := StaysIn.trans up xx.up
  have G := G.keeps xx.up
  have hT1 := LP_keeps hT1 xx.up
  have hW := LP_keeps hW xx.up
  clear xx fn
  walk_at "xs"
  exact wpK.mono (seg1e (StaysIn.trans hb up) G R F (by walk_at "look") (by walk_at "look") (by walk_at "look") (by walk_at "look") (by walk_at "look") (by walk_at "look") (by walk_at "look") (by walk_at "look") (by walk_at "look") (LP_keeps q1 up) hT1 hW x1 y1 ⟨_, by rw [y3.build]; exact y3⟩ y3.build sm hkl z1 z2 (by omega) (by rw [List.length_reverse]; omega) (by omega) (by omega) (by omega)) hQ (fun _ _ x => x)
theorem seg1c {w : World} {A : Around} {s₀ s : Shared} {b b1 : Heap} {mg mb : Str → Option Value} {L a : Addr} {cd : Value} {m : Str → Option Value} {h1 h2 w1 w2 : List Nat} {k : Nat} {st1 ot : List Pl.Pr} {ls lo : Addr} {t1 t3 t5 : Tok}
    (hb : b.StaysIn b1) (G : Gl P 30 mg mb b1) (R : Rm A 5) (F : Fm s₀ b b1 L [] m s)
    (e1 : m "one" = some (.str (S h1) t1)) (e2 : m "story" = some (.ref ls)) (e4 : m "spot" = some (.int ((k : Nat) : Int) t3)) (e7 : m "two" = some (.str (S h2) t5)) (e9 : m "other" = some (.ref lo))
    (q1 : LP b1 ls st1) (q3 : LP b1 lo ot) (x1 : Pl.Sto h1 w1 st1) (x3 : Pl.Sto h2 w2 ot)
    (sm : Pl.Small w1) (sm2 : Pl.Small w2) (hkl : k ≤ w1.length) (z3 : h1.length ≤ 3) (z4 : h2.length ≤ 3) (z5 : st1.length ≤ 5) (z6 : ot.length ≤ 5) :
    wpK (model P w) A (execs (s17 8) (e17 L a cd)) (fun fl s' => ∃ b', (match fl with | .ret v => v | _ => .none) = .bool true ∧ Ex s₀ b s' b') (fun _ _ => False) s := by
  refine cpsK fun Q hQ => ?_
  have z1 := x1.len
  have z2 := x3.len
  refine consK (assignK (callK (by assumption) (by assumption) (G.fn 11 (by decide) rfl) rfl rfl rfl rfl (by decide) rfl rfl rfl ?_))
  intro a11 fn
  walk_at "xs"
  refine ⟨F.le, wpK.mono (text1_con F.le G R fn (fun x hx => by have := x1.small sm x hx; omega) (x1.nums sm (by omega)) (by omega) (by omega) x1.lt q1 x1.ok) (fun v s h => ?_) (fun _ _ x => x)⟩
  obtain ⟨t8, b2, rfl, xx⟩ := h
  have F := F.call xx
  have up := xx.up
  have G := G.keeps xx.up
  clear xx fn
  rw [x1.build]
  walk_at "xs"
  refine consK (assignK (callK (by assumption) (by assumption) (G.fn 11 (by decide) rfl) rfl rfl rfl rfl (by decide) rfl rfl rfl ?_))
  intro a11 fn
  walk_at "xs"
  refine ⟨F.le, wpK.mono (text1_con F.le G R fn (fun x hx => by have := x3.small sm2 x hx; omega) (x3.nums sm2 (by omega)) (by omega) (by omega) x3.lt (LP_keeps q3 up) x3.ok) (fun v s h => ?_) (fun _ _ x => x)⟩
  obtain ⟨t9, b3, rfl, xx⟩ := h
  have F := F.call xx
  have up := StaysIn.trans up xx.up
  have G := G.keeps xx.up
  clear xx fn
  rw [x3.build]
  walk_at "xs"
  refine stepK ?_
  refine Assign_Tuple ?_ ?hs ?hw
  case hs => rfl
  case hw => rfl
  refine call_def (by assumption) (by assumption) (G.fn 15 (by decide) rfl) rfl rfl rfl rfl (by decide) rfl rfl ?_
  intro a15 fn
  walk_at "xs"
  refine ⟨F.le, wpAny_mono (cut1_con F.le G (R.le (by decide)) fn (LP_keeps q1 up) (by omega)) (fun v s h => ?_) (fun _ _ x => x)⟩
  obtain ⟨T, lf, rt, tk, b4, rfl, hT, hlf, hrt, xx⟩ := h
  have F := F.call xx
  have up := StaysIn.trans up xx.up
  have G := G.keeps xx.up
  clear xx fn
  refine unpack3 F R.handled rfl rfl (by kernel_rfl) (by kernel_rfl) (by kernel_rfl) hT ?_
  intro s F
  obtain ⟨f, ef, f1, f2, y1, y2⟩ := Pl.cut_ok st1 k x1 hkl
  rw [ef] at F
  have y1l := y1.len
  have y2l := y2.len
  rw [List.length_take, List.length_take] at y1l
  rw [List.length_drop, List.length_drop] at y2l
  exact wpK.mono (seg1d (StaysIn.trans hb up) G R F (by walk_at "look") (by walk_at "look") (by walk_at "look") (by walk_at "look") (by walk_at "look") (by walk_at "look") (by walk_at "look") (by walk_at "look") (by walk_at "look") hlf hrt (LP_keeps q3 up) y1 y2 x3 sm sm2 hkl f1 (by omega) (by omega) z3 z4 (by omega) (by omega)) hQ (fun _ _ x => x)
theorem LI_pick2 {b' : Heap} {q : Addr} {vs : List Value} {ns : List Int} {lo hi st : Option Int} {c : Nat} (ev : Ev IntV vs ns) (hl : b'.IsList q (slicePick vs.toArray lo hi st)) (hc : (sliceRange (sliceBounds lo hi st vs.toArray.size).1 (sliceBounds lo hi st vs.toArray.size).2.1 (sliceBounds lo hi st vs.toArray.size).2.2).length ≤ c) : ∃ ms, LI b' q ms ∧ (∀ d ∈ ms, d ∈ ns) ∧ ms.length ≤ c := by
  have h := ev.picks (sliceRange (sliceBounds lo hi st vs.toArray.size).1 (sliceBounds lo hi st vs.toArray.size).2.1 (sliceBounds lo hi st vs.toArray.size).2.2)
  have e2 : slicePick vs.toArray lo hi st = ((sliceRange (sliceBounds lo hi st vs.toArray.size).1 (sliceBounds lo hi st vs.toArray.size).2.1 (sliceBounds lo hi st vs.toArray.size).2.2).filterMap (vs[·]?)).toArray := by
    unfold slicePick; simp
  rw [e2] at hl
  refine ⟨_, ⟨_, hl, h⟩, fun d hd => ?_, Nat.le_trans (List.length_filterMap_le _ _) hc⟩
  obtain ⟨i, _, hi⟩ := List.mem_filterMap.mp hd
  exact List.mem_of_getElem? hi
theorem half0 {n : Nat} (h : n ≤ 10) : (sliceRange (sliceBounds none none (some 2) n).1 (sliceBounds none none (some 2) n).2.1 (sliceBounds none none (some 2) n).2.2).length ≤ 5 := by
  unfold sliceRange sliceBounds
  simp only [Option.getD_some, List.length_map, List.length_range]
  simp
  split <;> omega
theorem half1 {n : Nat} (h : n ≤ 10) : (sliceRange (sliceBounds (some 1) none (some 2) n).1 (sliceBounds (some 1) none (some 2) n).2.1 (sliceBounds (some 1) none (some 2) n).2.2).length ≤ 5 := by
  unfold sliceRange sliceBounds
  simp only [Option.getD_some, List.length_map, List.length_range]
  simp
  split <;> omega
theorem seg1b {w : World} {A : Around} {s₀ s : Shared} {b b1 : Heap} {mg mb : Str → Option Value} {L a l lst : Addr} {cd : Value} {m : Str → Option Value} {h1 h2 : List Nat} {vs : List Value} {ns : List Int} {i0 i1 : Int} {t1 t5 : Tok}
    (hb : b.StaysIn b1) (G : Gl P 30 mg mb b1) (R : Rm A 5) (F : Fm s₀ b b1 L [] m s)
    (e1 : m "one" = some (.str (S h1) t1)) (e2 : m "script" = some (.ref l)) (e4 : m "steer" = some (.ref lst)) (e7 : m "two" = some (.str (S h2) t5))
    (hvs : b1.IsList l vs.toArray) (ev : Ev IntV vs ns) (hvl : vs.length ≤ 63) (hst : LI b1 lst [i0, i1]) (a1 : ∀ c ∈ h1, c < 128) (a2 : ∀ c ∈ h2, c < 128) (z3 : h1.length ≤ 3) (z4 : h2.length ≤ 3) :
    wpK (model P w) A (execs (s17 4) (e17 L a cd)) (fun fl s' => ∃ b', (match fl with | .ret v => v | _ => .none) = .bool true ∧ Ex s₀ b s' b') (fun _ _ => False) s := by
  refine cpsK fun Q hQ => ?_
  refine stepK ?_
  refine lc_assign (cl := []) ?_ (by rfl) (closureFor_none (by decide +kernel)) rfl (by kernel_rfl) (by decide +kernel) rfl (by decide +kernel) (.inl ⟨_, _, rfl⟩) (fun _ => rfl)
  refine sub_lslice ?_ (fun _ _ => rfl)
  walk_at "xs"
  refine ⟨_, _, _, _, vs, some 2, some 12, _, _, _, rfl, hvs, by omega, .int _ _, .int _ _, F, ?_⟩
  intro q6 b10 s u F hq6
  have G := G.keeps u
  have up := u
  have hq6 : ∃ us ms, us.length ≤ 10 ∧ b10.IsList q6 us.toArray ∧ Ev IntV us ms := by
    have i := kmk_run (x := 2) (y := 12) ev.ints (by decide) (by decide)
    have il := i.length
    rw [List.length_take] at il
    exact ⟨(slicePick vs.toArray (some 2) (some 12) none).toList, _, by omega, hq6, ints_ev i⟩
  obtain ⟨us, ms, hul, hus, evs⟩ := hq6
  have hml := evs.len
  refine ⟨s₀, b, b10, [], _, _, _, fun i b ys => Ev IntV ys ((ms.take i).map (· % 7001)), F, ?_, .nil, iter_list R.handled F.le hus, ?_, ?_⟩
  · simp; omega
  · intro i v b' C D oL ys k' m' ios s E hi hv hJ nL up F
    have G := G.keeps up
    have hv : us[i]? = some v := by simpa using hv
    obtain ⟨y, hy, ty, rfl⟩ := evs.getV hv
    refine lc_assign_name F rfl rfl (by kernel_rfl) fun s F => ?_
    walk_at "xs"
    refine ⟨b', _, StaysIn.refl _, ?_, F⟩
    change Ev IntV _ ((ms.take (i + 1)).map (· % 7001))
    rw [List.take_add_one, hy, List.map_append]
    exact hJ.snoc ⟨_, rfl⟩
  clear F
  intro b' b11 D ys s u1 hJ _ u2 hl' F
  have hJ : Ev IntV ys ((ms.take us.toArray.size).map (· % 7001)) := hJ
  rw [List.take_of_length_le (by simp [hml])] at hJ
  have G := G.keeps (StaysIn.trans u1 u2)
  have up := StaysIn.trans up (StaysIn.trans u1 u2)
  have hn : ∀ d ∈ ms.map (· % 7001), 0 ≤ d ∧ d < 7001 := fun d hd => by
    obtain ⟨x, _, rfl⟩ := List.mem_map.mp hd
    exact ⟨Int.emod_nonneg _ (by decide), Int.emod_lt_of_pos _ (by decide)⟩
  have hml2 : (ms.map (· % 7001)).length ≤ 10 := by rw [List.length_map]; omega
  generalize ms.map (· % 7001) = zs at hJ hn hml2
  have hyl := hJ.len
  clear evs hus u1 u2
  refine stepK ?_
  walk_at "xs"
  refine call_def (by assumption) (by assumption) (G.fn 10 (by decide) rfl) rfl rfl rfl rfl (by decide) rfl rfl ?_
  intro a10 fn
  walk_at "xs"
  walk_at "len"
  walk_at "xs"
  refine sub_lstep ?_ (fun _ _ => rfl)
  walk_at "xs"
  refine ⟨_, _, _, _, ys, none, none, 2, _, _, _, rfl, hl', by omega, .none, .none, .int _ _, by decide, F, ?_⟩
  intro q8 b13 s u F hq8
  obtain ⟨n1, hn1, m1, l1⟩ := LI_pick2 (c := 5) hJ hq8 (half0 (by rw [List.size_toArray]; omega))
  have hl' := IsList_keeps hl' u
  have G := G.keeps u
  have up := StaysIn.trans up u
  walk_at "xs"
  refine ⟨StaysIn.trans u F.le, wpAny_mono (story1_con F.le G (R.le (by decide)) (fn.keeps u) hn1 (by omega) (by omega)) (fun v s h => ?_) (fun _ _ x => x)⟩
  obtain ⟨ls, b14, rfl, hls, xx⟩ := h
  have F := F.call xx
  have up := StaysIn.trans up xx.up
  have G := G.keeps xx.up
  have hl' := IsList_keeps hl' xx.up
  clear xx fn
  walk_at "xs"
  refine stepK ?_
  walk_at "xs"
  refine call_def (by assumption) (by assumption) (G.fn 10 (by decide) rfl) rfl rfl rfl rfl (by decide) rfl rfl ?_
  intro a10 fn
  walk_at "xs"
  walk_at "len"
  walk_at "xs"
  refine sub_lstep ?_ (fun _ _ => rfl)
  walk_at "xs"
  refine ⟨_, _, _, _, ys, some 1, none, 2, _, _, _, rfl, hl', by omega, .int _ _, .none, .int _ _, by decide, F, ?_⟩
  intro q8 b13 s u F hq8
  obtain ⟨n2, hn2, m2, l2⟩ := LI_pick2 (c := 5) hJ hq8 (half1 (by rw [List.size_toArray]; omega))
  have G := G.keeps u
  have up := StaysIn.trans up u
  have hls := LP_keeps hls u
  walk_at "xs"
  refine ⟨StaysIn.trans u F.le, wpAny_mono (story1_con F.le G (R.le (by decide)) (fn.keeps u) hn2 (by omega) (by omega)) (fun v s h => ?_) (fun _ _ x => x)⟩
  obtain ⟨lo, b15, rfl, hlo, xx⟩ := h
  have F := F.call xx
  have up := StaysIn.trans up xx.up
  have G := G.keeps xx.up
  have hls := LP_keeps hls xx.up
  clear xx fn
  walk_at "xs"
  have r1 := fun d hd => hn d (m1 d hd)
  have r2 := fun d hd => hn d (m2 d hd)
  have x1 := Pl.Sto.row (h := h1) a1 fun d hd => (r1 d hd).1
  have x3 := Pl.Sto.row (h := h2) a2 fun d hd => (r2 d hd).1
  have sm1 := x1.of_small (Pl.stF_small r1 l1)
  have sm2 := x3.of_small (Pl.stF_small r2 l2)
  have s1 : (Pl.stF h1.length (-1) n1).length ≤ 5 := by rw [Pl.stF_length]; exact l1
  have s2 : (Pl.stF h2.length (-1) n2).length ≤ 5 := by rw [Pl.stF_length]; exact l2
  have wl := x1.len
  obtain ⟨vt, hvt, evt⟩ := LI_keeps hst up
  obtain ⟨u1, hu1, tu, rfl⟩ := evt.get (i := 1) rfl
  obtain ⟨v5, hv5, ev5⟩ := id hls
  have y5 := ev5.len
  refine stepK ?_
  walk_at "xs"
  refine item_l F hvt (by decide) (by decide) hu1 (by with_unfolding_all rfl) ?_
  walk_at "xs"
  walk_at "len"
  walk_at "xs"
  walk_at "len"
  walk_at "xs"
  have k0 : 0 ≤ i1 % ((h1.length : Int) + v5.length + 1) := Int.emod_nonneg _ (by omega)
  have k1 : i1 % ((h1.length : Int) + v5.length + 1) < (h1.length : Int) + v5.length + 1 := Int.emod_lt_of_pos _ (by omega)
  obtain ⟨k, hk⟩ : ∃ k : Nat, i1 % ((h1.length : Int) + v5.length + 1) = k := ⟨_, (Int.toNat_of_nonneg k0).symm⟩
  rw [hk] at F
  exact wpK.mono (seg1c (StaysIn.trans hb up) G R F (by walk_at "look") (by walk_at "look") (by walk_at "look") (by walk_at "look") (by walk_at "look") hls hlo x1 x3 sm1 sm2 (by omega) z3 z4 s1 s2) hQ (fun _ _ x => x)
theorem LI_upto1 {b' : Heap} {q : Addr} {vs : List Value} {ns : List Int} {k : Nat} (ev : Ev IntV vs ns) (hl : b'.IsList q (slicePick vs.toArray none (some ((k : Nat) : Int)) none)) : LI b' q (ns.take k) := by
  rw [slicePick_upto'] at hl
  exact ⟨_, hl, ev.take k⟩
def goodS (h : List Nat) : Prop := (∀ c ∈ h, c < 128) ∧ h.length ≤ 3
theorem goodS_of {h : List Nat} (q : (h.all (· < 128) && decide (h.length ≤ 3)) = true) : goodS h := by
  simp only [Bool.and_eq_true, List.all_eq_true, decide_eq_true_eq] at q
  exact q
theorem law1_con {w : World} {A : Around} {s₀ : Shared} {b : Heap} {mg mb : Str → Option Value} {a l : Addr} {ns : List Int} {E : Value → Shared → Prop} (st : b.StaysIn s₀.heap) (G : Gl P 30 mg mb b) (R : Rm A 6) (fn : IsFn b a (defAt P 16)) (hI : LI b l ns) (hz : ns.length ≤ 63) :
    wpK (model P w) A (PySem.call (.ref a) [.ref l]) (fun v s' => ∃ b', v = .bool true ∧ Ex s₀ b s' b') E s₀ := by
  refine enterK (binds := [("script", .ref l)]) st fn G.nolimit R.room (fun _ _ _ => rfl) rfl rfl rfl rfl (by decide) ?_
  intro L cd s₁ F
  rw [binds1] at F
  refine genK (R.deep _) fun A R => ?_
  refine cpsK fun Q hQ => ?_
  obtain ⟨vs, hvs, ev⟩ := id hI
  have hvl := ev.len
  refine stepK ?_
  walk_at "xs"
  refine new_list F (by simp) ?_
  intro qh b0 s u0 F hqh
  have G := G.keeps u0
  have hvs := IsList_keeps hvs u0
  walk_at "xs"
  refine stepK ?_
  walk_at "x"
  refine sub_lsliceT ?_
  walk_at "x"
  refine sub_lslice ?_ (fun _ _ => rfl)
  walk_at "xs"
  refine ⟨_, _, _, _, vs, none, some ((2 : Nat) : Int), _, _, _, rfl, hvs, by omega, .none, .int _ _, F, ?_⟩
  intro q1 b1 s up F hq1
  have hq1 := LI_upto1 ev hq1
  have G := G.keeps up
  walk_at "xs"
  refine new_list F (by simp) ?_
  intro q2 b2 s up2 F hq2
  have G := G.keeps up2
  have hq1 := LI_keeps hq1 up2
  have hq2 : LI b2 q2 [0, 0] := ⟨_, hq2, .cons ⟨_, rfl⟩ (.cons ⟨_, rfl⟩ .nil)⟩
  obtain ⟨v1, hv1, ev1⟩ := hq1
  obtain ⟨v2, hv2, ev2⟩ := hq2
  have z1 := ev1.len
  have z2 := ev2.len
  rw [List.length_take] at z1
  simp only [List.length_cons, List.length_nil] at z2
  refine add_lists F hv1 hv2 (by omega) ?_
  intro q3 b3 s up3 F hq3
  have G := G.keeps up3
  have ev3 := ev1.app ev2
  walk_at "xs"
  refine ⟨_, _, _, _, v1 ++ v2, none, some ((2 : Nat) : Int), _, _, _, rfl, hq3, by rw [List.length_append]; omega, .none, .int _ _, F, ?_⟩
  intro qs b4 s up4 F hqs
  have hqs := LI_upto1 ev3 hqs
  have G := G.keeps up4
  have up := StaysIn.trans up (StaysIn.trans up2 (StaysIn.trans up3 up4))
  have hvs := IsList_keeps hvs up
  have hqh := IsList_keeps hqh up
  have up := StaysIn.trans u0 up
  obtain ⟨i0, i1, hst⟩ : ∃ i0 i1, (ns.take 2 ++ [0, 0]).take 2 = [i0, i1] := by
    match ns with
    | [] => exact ⟨_, _, rfl⟩
    | [x] => exact ⟨_, _, rfl⟩
    | x :: y :: _ => exact ⟨_, _, rfl⟩
  rw [hst] at hqs
  clear hst ev1 ev2 ev3 hv1 hv2 hq3 up2 up3 up4 u0
  obtain ⟨v4, hv4, ev4⟩ := id hqs
  obtain ⟨u0, hu0, t0, rfl⟩ := ev4.get (i := 0) rfl
  have pickH : ∀ (z : Int) (v0 v1 v2 v3 : Tok), 0 ≤ z → z < 4 → ∃ h k, [Value.str (Str.ofString "") v0, .str (Str.ofString "q") v1, .str (Str.ofString "-x") v2, .str (Str.ofString "oz3") v3][z.toNat]? = some (.str (S h) k) ∧ goodS h := by
    intro z v0 v1 v2 v3 z0 z1
    obtain rfl | rfl | rfl | rfl : z = 0 ∨ z = 1 ∨ z = 2 ∨ z = 3 := by omega
    · exact ⟨[], _, rfl, goodS_of (by decide)⟩
    · exact ⟨[113], _, rfl, goodS_of (by decide)⟩
    · exact ⟨[45, 120], _, rfl, goodS_of (by decide)⟩
    · exact ⟨[111, 122, 51], _, rfl, goodS_of (by decide)⟩
  walk_at "xs"
  refine stepK ?_
  walk_at "xs"
  refine item_l F hv4 (by decide) (by decide) hu0 (by with_unfolding_all rfl) ?_
  walk_at "xs"
  obtain ⟨h1, k1, hk1, g1⟩ := pickH (i0 % 4) _ _ _ _ (Int.emod_nonneg _ (by decide)) (Int.emod_lt_of_pos _ (by decide))
  refine item_l F hqh (Int.emod_nonneg _ (by decide)) (by have := Int.emod_lt_of_pos i0 (b := 4) (by decide); omega) hk1 (by with_unfolding_all rfl) ?_
  walk_at "xs"
  refine stepK ?_
  walk_at "xs"
  refine item_l F hv4 (by decide) (by decide) hu0 (by with_unfolding_all rfl) ?_
  walk_at "xs"
  obtain ⟨h2, k2, hk2, g2⟩ := pickH (i0 / 4 % 4) _ _ _ _ (Int.emod_nonneg _ (by decide)) (Int.emod_lt_of_pos _ (by decide))
  refine item_l F hqh (Int.emod_nonneg _ (by decide)) (by have := Int.emod_lt_of_pos (i0 / 4) (b := 4) (by decide); omega) hk2 (by with_unfolding_all rfl) ?_
  walk_at "x"
  exact wpK.mono (seg1b up G R F (by walk_at "look") (by walk_at "look") (by walk_at "look") (by walk_at "look") hvs ev (by omega) hqs g1.1 g2.1 g1.2 g2.2) hQ (fun _ _ x => x)
theorem good_true {c : ClaimW} {cl : Str → Option Addr} {mean : ExcName → Option Value} {args : List WData} {s₁ s' : Shared} (k : Keeps s₁ s') (hg : s₁.gens = #[]) (hn : ∀ cls, c.raises args cls = false) (hp : c.post args (.bool true) args = true) :
    GoodWG c cl mean args s₁ (.ok (.ret (.bool true))) s' :=
  ⟨.inl ⟨_, .bool true, [], rfl, hn, .bool true, hp, unshared_nil⟩, .of_keep (Keeps.le k), (Keeps.same k).2.2, .of_eq ((Keeps.same k).1.trans hg)⟩
theorem fn_at {q : Program} {loose : List Str} {mean : ExcName → Option Value} {mg mb : Str → Option Value} {h : Heap} (T : Top q loose mean mg mb h) {d : DefP}
    (e : ((recsOf q).find? fun x => x.name == d.name).map (fun x => (x.name, x.params, x.body, x.scope)) = some (d.name, d.params, d.body, d.scope)) : FnAt mg h d := by
  cases hf : (recsOf q).find? fun x => x.name == d.name with
  | none => rw [hf] at e; cases e
  | some x =>
    rw [hf] at e
    obtain ⟨a, o, pm, cd, doc, h1, h2, h3, h4⟩ := T.fn x (List.mem_of_find?_eq_some hf)
    simp only [Option.map_some, Option.some.injEq, Prod.mk.injEq] at e
    obtain ⟨e1, e2, e3, e4⟩ := e
    rw [e1] at h1 h3 h4
    rw [e2, e3, e4] at h3
    exact ⟨a, o, pm, cd, doc, h1, h2, h3, h4⟩
theorem digits_at {q : Program} {mg : Str → Option Value} {h : Heap} (W : TopW q mg h) (e : (wlitsOf q).find? (fun x => x.1 == ("digits" : Str)) = some (("digits", WData.bytes digitsArr.toList) : Str × WData)) : ∃ t, mg "digits" = some (.bytes digitsArr t) := by
  obtain ⟨v, h1, h2⟩ := W.lits _ (List.mem_of_find?_eq_some e)
  obtain ⟨t, rfl, _⟩ := readsW_bytes_inv h2
  exact ⟨t, by simpa using h1⟩
theorem IsFn.of {mg : Str → Option Value} {h : Heap} {d : DefP} {a : Addr} (x : FnAt mg h d) (e : mg d.name = some (.ref a)) : IsFn h a d := by
  obtain ⟨a', o, pm, cd, doc, h1, h2, h3, h4⟩ := x
  rw [e] at h1; cases h1
  exact ⟨o, pm, cd, doc, h2, h3, h4⟩
theorem caller_Rm : Rm callerA 6 := ⟨rfl, by decide, by decide⟩
theorem gl_of {q : Program} {loose : List Str} {mean : ExcName → Option Value} {mg mb : Str → Option Value} {h : Heap} (T : Top q loose mean mg mb h) (W : TopW q mg h)
    (ed : (wlitsOf q).find? (fun x => x.1 == ("digits" : Str)) = some (("digits", WData.bytes digitsArr.toList) : Str × WData))
    (ef : (bltNames.all fun x => decide (x ∉ startupNames) && decide (x ∉ loose) && decide (x ∉ (recsOf q).map (·.name)) && decide (x ∉ (litsOf q).map (·.1)) && decide (x ∉ (clssOf q loose).map (·.name))) = true)
    (fn : ∀ i < 30, (match P.main.body[i]? with | some (.FunctionDef ..) => true | _ => false) = true → FnAt mg h (defAt P i)) : Gl P 30 mg mb h := by
  refine ⟨T.g, T.b, T.nolimit, T.builtins, fun x hx => ?_, fn, digits_at W ed⟩
  have := List.all_eq_true.mp ef x hx
  simp only [Bool.and_eq_true, decide_eq_true_eq] at this
  exact T.free x this.1.1.1.1 this.1.1.1.2 this.1.1.2 this.1.2 this.2
/-- the text without its two lines of __name__ -/
def topQ : Program := { P with main := { P.main with body := (P.main.body.drop 1).take 8 ++ P.main.body.drop 10 } }
theorem Foo : PySem.Challenge.rw_rl0155_01.Holds := by
  w_on
  o_law
  refine holds_openK (q := topQ) (loose := []) (Xt := fun s => xlAt topQ [] s && recOk (RowW.records (OpenRow.toRowW (PySem.Challenge.rw_rl0155_01).row)) s) (XP := XL topQ []) (Yf := Hook.obs Hook.none) (Ya := Hook.val Hook.none) (YP := Hook.says Hook.none) (N := 1100) ?hl (Hook.of Hook.none) (Hook.keeps Hook.none) (fun s e => xl_of s (Bool.and_eq_true_iff.mp e).1) XL.keeps (by rfl) (by rfl) (by rfl) (fun s e => recFacts_of (Bool.and_eq_true_iff.mp e).2) (by rfl) (by assumption) (by decide +kernel) ⟨rfl, rfl, rfl, rfl, rfl, by decide +kernel⟩ ?hw ?hc
  case hl => exact fun w => by kernel_rfl
  case hw => w_witness2
  intro w s₀ s₁ mg mb G Y a o pm cd doc dV kV ho hd hcd hD hg hgens args vals as hpre hlay hrd hwl hlo
  have T := G.T
  have TW := G.W
  clear hd ho hcd hD Y
  wrow_args hpre hlay hrd hwl hlo
  rename_i ns _ _ _ _ _ _ _ l vs _ hL _ _ _ hI _ hlen _
  have Gl0 : Gl P 30 mg mb s₁.heap := by
    refine gl_of T TW (by kernel_rfl) (by decide +kernel) fun i hi he => ?_
    obtain rfl | rfl | rfl | rfl | rfl | rfl | rfl | rfl | rfl | rfl | rfl | rfl | rfl | rfl | rfl | rfl | rfl | hi' : i = 0 ∨ i = 1 ∨ i = 2 ∨ i = 3 ∨ i = 4 ∨ i = 5 ∨ i = 6 ∨ i = 7 ∨ i = 8 ∨ i = 9 ∨ i = 10 ∨ i = 11 ∨ i = 12 ∨ i = 13 ∨ i = 14 ∨ i = 15 ∨ i = 16 ∨ 17 ≤ i := by omega
    all_goals first
      | exact absurd he (by decide +kernel)
      | (rw [Array.getElem?_eq_none (by exact hi')] at he; cases he)
      | (rw [List.getElem?_eq_none (by exact hi')] at he; cases he)
      | exact fn_at T (by kernel_rfl)
  have good : ∀ s', Keeps s₁ s' → GoodWG Challenge.rw_rl0155_01.row.claim (classAt s₀.heap) (ExcName.means s₀.heap) [ofPy (PyData.list (List.map PyData.int ns))] s₁ (.ok (.ret (.bool true))) s' := fun s' k => good_true k hgens (fun _ => by kernel_rfl) (by kernel_rfl)
  refine ⟨good _ (Keeps.rfl' _), ?_⟩
  refine wpK.mono (law1_con (E := fun _ _ => False) (StaysIn.refl _) Gl0 caller_Rm (IsFn.of (Gl0.fn 16 (by decide) rfl) hg) ⟨vs, hL, ints_ev hI⟩ (by omega)) (fun v s' h => ?_) (fun _ _ (x : False) => x.elim)
  obtain ⟨b', rfl, x⟩ := h
  exact good _ x.keep
end Mine
theorem PySem.Challenge.cw_rl0155_01_holds : PySem.Challenge.rw_rl0155_01.Holds := by
  exact Mine.Foo
