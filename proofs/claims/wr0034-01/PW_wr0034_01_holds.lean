import PyProof.Rows.All
import Wide.All
import Open.Line
import Wide.FinOn
import PySem.Challenge.RW_wr0034_01
set_option Elab.async false
set_option maxRecDepth 100000
set_option linter.unusedVariables false
set_option linter.unusedSimpArgs false
set_option genSizeOf false
set_option genInjectivity false
set_option bootstrap.genMatcherCode false

namespace Mine
open PySem PySem.W PySem.Calls PyProof.Rows

noncomputable abbrev Pr := Addr → Prop
/-- what is kept of a run on the side: addresses that may still change, and what some tokens stand for -/
structure Gh where
  m : Pr
  τ : Tok → Option Str
structure Gh.le (M M' : Gh) : Prop where
  m : M'.m = M.m
  τ : ∀ t s, M.τ t = some s → M'.τ t = some s
theorem Gh.le.refl {M : Gh} : M.le M := ⟨rfl, fun _ _ e => e⟩
theorem Gh.le.trans {M M' M'' : Gh} (a : M.le M') (b : M'.le M'') : M.le M'' := ⟨b.m.trans a.m, fun t s e => b.τ t s (a.τ t s e)⟩
/-- the tokens told of are given out -/
noncomputable def Tb (M : Gh) (k : Nat) : Prop := ∀ t, M.τ t ≠ none → t < k
theorem Tb.mono {M : Gh} {k k' : Nat} (h : Tb M k) (hk : k ≤ k') : Tb M k' := fun t ht => Nat.lt_of_lt_of_le (h t ht) hk
/-- one token more -/
noncomputable def Gh.put (M : Gh) (t : Tok) (s : Str) : Gh := ⟨M.m, fun u => if u = t then some s else M.τ u⟩
theorem Gh.put_le {M : Gh} {k : Nat} {s : Str} (h : Tb M k) : M.le (M.put k s) := ⟨rfl, fun t u e => by
  show (if t = k then some s else M.τ t) = some u
  rw [if_neg (fun z => by subst z; exact Nat.lt_irrefl _ (h t (by rw [e]; simp)))]; exact e⟩
theorem Gh.put_tb {M : Gh} {k : Nat} {s : Str} (h : Tb M k) : Tb (M.put k s) (k + 1) := fun t ht => by
  by_cases z : t = k
  · subst z; exact Nat.lt_succ_self _
  · exact Nat.lt_succ_of_lt (h t (by
      have : (M.put k s).τ t = M.τ t := if_neg z
      rwa [this] at ht))
theorem Gh.put_at {M : Gh} {k : Nat} {s : Str} : (M.put k s).τ k = some s := if_pos rfl

/-- values as trees; `olst` is a list that its frame may still change -/
inductive V where
  | none | bool (b : Bool) | int (i : Int) | str (n : Bool) (s : Str)
  | tup (vs : List V) | lst (vs : List V) | olst (vs : List V)
  | fn (a : Addr) | bi (id : String) | ty (n : String)

/-- a tuple as the text makes it -/
noncomputable def PT (h : Heap) (a : Addr) (items : Array Value) : Prop := ∃ n, h.get? a = some { cls := .type "tuple", data := .seq items n }
theorem PT.at {h h' : Heap} {a items} (x : PT h a items) (hk : ∀ o, h.get? a = some o → h'.get? a = some o) : PT h' a items := let ⟨n, e⟩ := x; ⟨n, hk _ e⟩
theorem PT.tup {h : Heap} {a items} (x : PT h a items) : IsTup h a items := let ⟨n, e⟩ := x; ⟨_, e, rfl, n, rfl⟩
theorem PT.tuple {h : Heap} {a items} (x : PT h a items) : h.IsTuple a items := let ⟨n, e⟩ := x; ⟨_, e, rfl, n, rfl⟩

mutual
noncomputable def VR (M : Gh) (h : Heap) : V → Value → Prop
  | .none, x => x = .none
  | .bool b, x => x = .bool b
  | .int i, x => ∃ t, x = .int i t
  | .str n s, x => ∃ t, x = .str s t ∧ (n = true → t ≠ 0 ∧ M.τ t = some s)
  | .tup vs, x => ∃ a items, x = .ref a ∧ ¬ M.m a ∧ PT h a items ∧ VRs M h vs items.toList
  | .lst vs, x => ∃ a items, x = .ref a ∧ ¬ M.m a ∧ h.PlainList a items ∧ VRs M h vs items.toList
  | .olst vs, x => ∃ a items, x = .ref a ∧ M.m a ∧ h.PlainList a items ∧ VRs M h vs items.toList
  | .fn a, x => x = .ref a
  | .bi id, x => x = .builtin id
  | .ty n, x => x = .type n
noncomputable def VRs (M : Gh) (h : Heap) : List V → List Value → Prop
  | [], xs => xs = []
  | v :: vs, xs => ∃ y ys, xs = y :: ys ∧ VR M h v y ∧ VRs M h vs ys
end

mutual
noncomputable def V.plain : V → Bool
  | .tup vs => plains vs
  | .lst vs => plains vs
  | .olst _ => false
  | _ => true
noncomputable def plains : List V → Bool
  | [] => true
  | v :: vs => v.plain && plains vs
end

noncomputable abbrev Kp (M : Pr) (h h' : Heap) : Prop := ∀ b o, ¬ M b → h.get? b = some o → h'.get? b = some o
noncomputable abbrev St (h h' : Heap) : Prop := ∀ b o, h.get? b = some o → h'.get? b = some o


mutual
theorem VR.keep {M : Gh} {h h' : Heap} (hk : St h h') : ∀ {v : V} {x : Value}, VR M h v x → VR M h' v x
  | .none, _, e => e
  | .bool _, _, e => e
  | .int _, _, e => e
  | .str _ _, _, e => e
  | .tup vs, _, ⟨a, it, e, m, l, r⟩ => ⟨a, it, e, m, l.at (hk a), VRs.keep hk r⟩
  | .lst vs, _, ⟨a, it, e, m, l, r⟩ => ⟨a, it, e, m, l.at (hk a), VRs.keep hk r⟩
  | .olst vs, _, ⟨a, it, e, m, l, r⟩ => ⟨a, it, e, m, l.at (hk a), VRs.keep hk r⟩
  | .fn _, _, e => e
  | .bi _, _, e => e
  | .ty _, _, e => e
theorem VRs.keep {M : Gh} {h h' : Heap} (hk : St h h') : ∀ {vs : List V} {xs : List Value}, VRs M h vs xs → VRs M h' vs xs
  | [], _, e => e
  | _ :: _, _, ⟨y, ys, e, a, b⟩ => ⟨y, ys, e, VR.keep hk a, VRs.keep hk b⟩
end
mutual
theorem VR.but {M : Gh} {h h' : Heap} (hk : Kp M.m h h') : ∀ {v : V} {x : Value}, v.plain = true → VR M h v x → VR M h' v x
  | .none, _, _, e => e
  | .bool _, _, _, e => e
  | .int _, _, _, e => e
  | .str _ _, _, _, e => e
  | .tup vs, _, p, ⟨a, it, e, m, l, r⟩ => ⟨a, it, e, m, l.at (fun o => hk a o m), VRs.but hk p r⟩
  | .lst vs, _, p, ⟨a, it, e, m, l, r⟩ => ⟨a, it, e, m, l.at (fun o => hk a o m), VRs.but hk p r⟩
  | .olst vs, _, p, _ => nomatch p
  | .fn _, _, _, e => e
  | .bi _, _, _, e => e
  | .ty _, _, _, e => e
theorem VRs.but {M : Gh} {h h' : Heap} (hk : Kp M.m h h') : ∀ {vs : List V} {xs : List Value}, plains vs = true → VRs M h vs xs → VRs M h' vs xs
  | [], _, _, e => e
  | v :: vs, _, p, ⟨y, ys, e, a, b⟩ =>
    have p' : v.plain = true ∧ plains vs = true := by simpa [plains] using p
    ⟨y, ys, e, VR.but hk p'.1 a, VRs.but hk p'.2 b⟩
end
mutual
/-- fewer, or other unallocated, addresses to keep away from -/
theorem VR.less {M M' : Gh} {h : Heap} (hm : ∀ b, M'.m b → M.m b ∨ h.get? b = none) (ht : ∀ t s, M.τ t = some s → M'.τ t = some s) : ∀ {v : V} {x : Value}, v.plain = true → VR M h v x → VR M' h v x
  | .none, _, _, e => e
  | .bool _, _, _, e => e
  | .int _, _, _, e => e
  | .str _ _, _, _, ⟨t, e, q⟩ => ⟨t, e, fun z => ⟨(q z).1, ht _ _ (q z).2⟩⟩
  | .tup vs, _, p, ⟨a, it, e, m, l, r⟩ => ⟨a, it, e, fun z => (hm a z).elim m (fun q => by obtain ⟨n, ho⟩ := l; rw [q] at ho; cases ho), l, VRs.less hm ht p r⟩
  | .lst vs, _, p, ⟨a, it, e, m, l, r⟩ => ⟨a, it, e, fun z => (hm a z).elim m (fun q => by obtain ⟨n, ho⟩ := l; rw [q] at ho; cases ho), l, VRs.less hm ht p r⟩
  | .olst vs, _, p, _ => nomatch p
  | .fn _, _, _, e => e
  | .bi _, _, _, e => e
  | .ty _, _, _, e => e
theorem VRs.less {M M' : Gh} {h : Heap} (hm : ∀ b, M'.m b → M.m b ∨ h.get? b = none) (ht : ∀ t s, M.τ t = some s → M'.τ t = some s) : ∀ {vs : List V} {xs : List Value}, plains vs = true → VRs M h vs xs → VRs M' h vs xs
  | [], _, _, e => e
  | v :: vs, _, p, ⟨y, ys, e, a, b⟩ =>
    have p' : v.plain = true ∧ plains vs = true := by simpa [plains] using p
    ⟨y, ys, e, VR.less hm ht p'.1 a, VRs.less hm ht p'.2 b⟩
end

mutual
theorem VR.up {M M' : Gh} {h : Heap} (g : M.le M') : ∀ {v : V} {x : Value}, VR M h v x → VR M' h v x
  | .none, _, e => e
  | .bool _, _, e => e
  | .int _, _, e => e
  | .str _ _, _, ⟨t, e, q⟩ => ⟨t, e, fun z => ⟨(q z).1, g.τ _ _ (q z).2⟩⟩
  | .tup vs, _, ⟨a, it, e, m, l, r⟩ => ⟨a, it, e, by rw [g.m]; exact m, l, VRs.up g r⟩
  | .lst vs, _, ⟨a, it, e, m, l, r⟩ => ⟨a, it, e, by rw [g.m]; exact m, l, VRs.up g r⟩
  | .olst vs, _, ⟨a, it, e, m, l, r⟩ => ⟨a, it, e, by rw [g.m]; exact m, l, VRs.up g r⟩
  | .fn _, _, e => e
  | .bi _, _, e => e
  | .ty _, _, e => e
theorem VRs.up {M M' : Gh} {h : Heap} (g : M.le M') : ∀ {vs : List V} {xs : List Value}, VRs M h vs xs → VRs M' h vs xs
  | [], _, e => e
  | _ :: _, _, ⟨y, ys, e, a, b⟩ => ⟨y, ys, e, VR.up g a, VRs.up g b⟩
end

theorem VRs.length {M : Gh} {h : Heap} : ∀ {vs : List V} {xs : List Value}, VRs M h vs xs → xs.length = vs.length
  | [], _, e => by rw [show _ = [] from e]; rfl
  | _ :: _, _, ⟨y, ys, e, _, b⟩ => by rw [e, List.length_cons, List.length_cons, VRs.length b]
theorem VRs.get {M : Gh} {h : Heap} : ∀ {vs : List V} {xs : List Value} {i : Nat} {v : V}, VRs M h vs xs → vs[i]? = some v → ∃ x, xs[i]? = some x ∧ VR M h v x
  | [], _, _, _, _, e => by cases e
  | _ :: _, _, 0, _, ⟨y, ys, e, a, _⟩, h => by cases h; exact ⟨y, by rw [e]; rfl, a⟩
  | _ :: _, _, i + 1, _, ⟨y, ys, e, _, b⟩, h => by
    obtain ⟨x, hx, r⟩ := VRs.get (i := i) b (by simpa using h)
    exact ⟨x, by rw [e]; simpa using hx, r⟩
theorem VRs.append {M : Gh} {h : Heap} : ∀ {vs ws : List V} {xs ys : List Value}, VRs M h vs xs → VRs M h ws ys → VRs M h (vs ++ ws) (xs ++ ys)
  | [], _, _, _, e, b => by rw [show _ = [] from e]; exact b
  | _ :: _, _, _, _, ⟨y, ys, e, a, b⟩, c => by rw [e]; exact ⟨y, _, rfl, a, VRs.append b c⟩
theorem VRs.drop {M : Gh} {h : Heap} : ∀ {n : Nat} {vs : List V} {xs : List Value}, VRs M h vs xs → VRs M h (vs.drop n) (xs.drop n)
  | 0, _, _, a => a
  | _ + 1, [], _, e => by rw [show _ = [] from e]; rfl
  | n + 1, _ :: _, _, ⟨y, ys, e, _, b⟩ => by rw [e]; exact VRs.drop (n := n) b
theorem VRs.take {M : Gh} {h : Heap} : ∀ {n : Nat} {vs : List V} {xs : List Value}, VRs M h vs xs → VRs M h (vs.take n) (xs.take n)
  | 0, _, _, _ => rfl
  | _ + 1, [], _, e => by rw [show _ = [] from e]; rfl
  | n + 1, _ :: _, _, ⟨y, ys, e, a, b⟩ => by rw [e]; exact ⟨y, _, rfl, a, VRs.take (n := n) b⟩

/-- what a step leaves as it was: the heap but C, the first n generators -/
structure Adv (C : Pr) (n : Nat) (s s' : Shared) : Prop where
  keep : Kp C s.heap s'.heap
  alive : ∀ b o, s.heap.get? b = some o → ∃ o', s'.heap.get? b = some o'
  gens : ∀ i, i < n → s'.gens[i]? = s.gens[i]?
  gsz : s.gens.size ≤ s'.gens.size
  bare : AllBare s.gens → AllBare s'.gens
  os : s'.os = s.os
  toks : s.toks ≤ s'.toks

noncomputable abbrev noC : Pr := fun _ => False
noncomputable abbrev AdvE (s s' : Shared) : Prop := Adv noC s.gens.size s s'
/-- the addresses of M hold objects -/
noncomputable def Al (M : Pr) (h : Heap) : Prop := ∀ b, M b → ∃ o, h.get? b = some o

theorem Adv.refl {C : Pr} {n : Nat} {s : Shared} : Adv C n s s := ⟨fun _ _ _ e => e, fun _ o e => ⟨o, e⟩, fun _ _ => rfl, Nat.le_refl _, id, rfl, Nat.le_refl _⟩
theorem Adv.trans {C C' : Pr} {n n' : Nat} {s s' s'' : Shared} (a : Adv C n s s') (b : Adv C' n' s' s'') (hn : n ≤ n') (hc : ∀ x, C' x → C x ∨ s.heap.get? x = none) : Adv C n s s'' :=
  ⟨fun x o hx e => b.keep x o (fun q => (hc x q).elim hx (fun z => by rw [z] at e; cases e)) (a.keep x o hx e), fun x o e => let ⟨o', e'⟩ := a.alive x o e; b.alive x o' e',
   fun i hi => (b.gens i (Nat.lt_of_lt_of_le hi hn)).trans (a.gens i hi), Nat.le_trans a.gsz b.gsz, fun z => b.bare (a.bare z), b.os.trans a.os, Nat.le_trans a.toks b.toks⟩
theorem Adv.more {C C' : Pr} {n n' : Nat} {s s' : Shared} (a : Adv C n s s') (hn : n' ≤ n) (hc : ∀ x, C x → C' x ∨ s.heap.get? x = none) : Adv C' n' s s' :=
  Adv.trans Adv.refl a hn hc
theorem AdvE.trans {s s' s'' : Shared} (a : AdvE s s') (b : AdvE s' s'') : AdvE s s'' := Adv.trans a b a.gsz (fun _ h => h.elim)
theorem AdvE.st {s s' : Shared} (a : AdvE s s') : St s.heap s'.heap := fun b o e => a.keep b o id e
theorem AdvE.to {C : Pr} {n : Nat} {s s' : Shared} (a : AdvE s s') (hn : n ≤ s.gens.size) : Adv C n s s' := a.more hn fun _ h => h.elim
theorem Al.adv {M C : Pr} {n : Nat} {s s' : Shared} (h : Al M s.heap) (a : Adv C n s s') : Al M s'.heap := fun b hb => let ⟨o, e⟩ := h b hb; a.alive b o e
theorem Al.fresh {M : Pr} {h : Heap} (x : Al M h) : ¬ M h.objs.size := fun z => let ⟨_, e⟩ := x _ z; Nat.lt_irrefl _ (Heap.lt_size e)
theorem Al.none {h : Heap} : Al noC h := fun _ z => z.elim
theorem fresh_none (h : Heap) {a : Addr} (ha : h.objs.size ≤ a) : h.get? a = none := by
  cases e : h.get? a with
  | none => rfl
  | some o => exact absurd (Heap.lt_size e) (Nat.not_lt.mpr ha)
/-- the usual step: a new heap, tokens on -/
theorem AdvE.of {s : Shared} {h : Heap} {k : Nat} (hk : St s.heap h) (ht : s.toks ≤ k) : AdvE s { s with heap := h, toks := k } :=
  ⟨fun b o _ e => hk b o e, fun b o e => ⟨o, hk b o e⟩, fun _ _ => rfl, Nat.le_refl _, id, rfl, ht⟩
theorem AdvE.tok {s : Shared} {k : Nat} (ht : s.toks ≤ k) : AdvE s { s with toks := k } := AdvE.of (fun _ _ e => e) ht
theorem AdvE.heap {s : Shared} {h : Heap} (hk : St s.heap h) : AdvE s { s with heap := h } := AdvE.of (k := s.toks) hk (Nat.le_refl _)
theorem St.push (h : Heap) (o : Obj) : St h (h.push o) := fun _ _ e => Heap.get?_push_of_some _ e
theorem AdvE.push {s : Shared} {o : Obj} : AdvE s { s with heap := s.heap.push o } := AdvE.heap (St.push _ _)

end Mine

namespace Mine
open PySem PySem.W PySem.Calls PyProof.Rows

noncomputable def EvAt0 (prog : Program) (w : World) (A : Around) (M : Gh) (t : Sem Value) (v : V) (s : Shared) : Prop :=
  ∀ (Q E : Value → Shared → Prop), (∀ x s', AdvE s s' → VR M s'.heap v x → Q x s') → wpAny (model prog w) A t Q E s
noncomputable def EvAt (prog : Program) (w : World) (A : Around) (M : Gh) (t : Sem Value) (v : V) (s : Shared) : Prop :=
  ∀ (Q E : Value → Shared → Prop), (∀ x s' M', M.le M' → Tb M' s'.toks → AdvE s s' → VR M' s'.heap v x → Q x s') → wpAny (model prog w) A t Q E s
theorem EvAt0.ev {prog : Program} {w : World} {A : Around} {M : Gh} {t : Sem Value} {v : V} {s : Shared} (h : EvAt0 prog w A M t v s) (hb : Tb M s.toks) : EvAt prog w A M t v s :=
  fun Q E q => h Q E fun x s' a r => q x s' M .refl (hb.mono a.toks) a r
noncomputable def TrAt (prog : Program) (w : World) (A : Around) (t : Sem Bool) (b : Bool) (s : Shared) : Prop :=
  ∀ (Q : Bool → Shared → Prop) (E : Value → Shared → Prop), (∀ s', AdvE s s' → Q b s') → wpAny (model prog w) A t Q E s

structure RM (A : Around) (d : Nat) : Prop where
  handled : A.handled = none
  depth : A.depth + d < recursionLimit
  units : A.units + 8 * d + 80 < cLine
theorem RM.u {A : Around} {d : Nat} (r : RM A d) : A.units < cLine := by have := r.units; lia
theorem RM.u64 {A : Around} {d : Nat} (r : RM A d) : A.units + 64 < cLine := by have := r.units; lia
theorem RM.d {A : Around} {d : Nat} (r : RM A d) : A.depth < recursionLimit := by have := r.depth; lia

noncomputable def lim : Nat := 100000
theorem lim_le : lim ≤ sizeLine := by rw [sizeLine_eq]; decide

noncomputable def seqOf : V → Option (List V)
  | .lst vs => some vs
  | .olst vs => some vs
  | _ => none
theorem VR.list {M : Gh} {h : Heap} {v : V} {vs : List V} {x : Value} (e : seqOf v = some vs) (r : VR M h v x) : ∃ a items, x = .ref a ∧ h.PlainList a items ∧ VRs M h vs items.toList := by
  cases v <;> simp [seqOf] at e
  · subst e; obtain ⟨a, it, e, _, l, r⟩ := r; exact ⟨a, it, e, l, r⟩
  · subst e; obtain ⟨a, it, e, _, l, r⟩ := r; exact ⟨a, it, e, l, r⟩

noncomputable def smallI (a : Int) : Bool := decide (-2147483648 ≤ a) && decide (a ≤ 2147483648)

noncomputable def int2 (f : Int → Int → Option V) : V → V → Option V
  | .int a, .int b => f a b
  | _, _ => none
theorem int2_some {f : Int → Int → Option V} {a b v : V} (h : int2 f a b = some v) : ∃ i j, a = .int i ∧ b = .int j ∧ f i j = some v := by
  cases a <;> first | (cases h; done) | skip
  cases b <;> first | (cases h; done) | skip
  exact ⟨_, _, rfl, rfl, h⟩
noncomputable def addV : V → V → Option V
  | .int a, .int b => some (.int (a + b))
  | .str n x, .str k y => if x.length + y.length ≤ lim then some (.str (n && k) (x ++ y)) else none
  | a, b => match seqOf a, seqOf b with
    | some xs, some ys => if xs.length + ys.length ≤ lim then some (.lst (xs ++ ys)) else none
    | _, _ => none
noncomputable def mulV : V → V → Option V
  | .int a, b => int2 (fun a b => if smallI a && smallI b then some (.int (a * b)) else none) (.int a) b
  | .str n x, .int b => if decide (2 ≤ b) && decide (b ≤ 1000) && decide (1 ≤ x.length) && decide (x.length ≤ 1000) then some (.str false (Txt.mul x b)) else none
  | _, _ => none
noncomputable def binV (op : Operator) (a b : V) : Option V := match op with
  | .Add => addV a b
  | .Sub => int2 (fun a b => some (.int (a - b))) a b
  | .Mult => mulV a b
  | .Mod => int2 (fun a b => if b == 0 then none else some (.int (a.fmod b))) a b
  | .FloorDiv => int2 (fun a b => if b == 0 || Builtin.divisionGoesByPylong a b then none else some (.int (a.fdiv b))) a b
  | _ => none

variable {prog : Program} {w : World} {A : Around} {M : Gh} {s : Shared}

theorem intMulOk_small {a b : Int} (ha : smallI a = true) : IntMulOk a b := by
  unfold smallI at ha
  simp only [Bool.and_eq_true, decide_eq_true_eq] at ha
  have := intBits_le_64 (k := a) (by lia) (by lia)
  unfold IntMulOk
  have e : decide (Builtin.Int.intBits a > shortFactorBits) = false := decide_eq_false (by unfold shortFactorBits; lia)
  rw [e]; simp

theorem tooLong_small {n : Nat} (h : n ≤ 1000000) : Builtin.Str.tooLong n = false := by
  unfold Builtin.Str.tooLong
  have : ¬ (n > 2 ^ 24) := by lia
  simp; rw [sizeLine_eq]; lia

theorem str_app (x y : Str) : (x ++ y).length = x.length + y.length := Str.length_append x y
theorem str_len0 {x : Str} (h : (x.length == 0) = true) : x = Str.empty := by
  obtain ⟨a⟩ := x
  have : a = #[] := Array.eq_empty_of_size_eq_zero (by simpa [Str.length] using h)
  subst this; rfl

theorem add_str_ev {x y : Str} {t u : Tok} {n k : Bool} (hb : Tb M s.toks) (hx : n = true → t ≠ 0 ∧ M.τ t = some x) (hy : k = true → u ≠ 0 ∧ M.τ u = some y) (ht : 1 ≤ s.toks) (hl : x.length + y.length ≤ lim) :
    EvAt prog w A M (binaryOp .Add (.str x t) (.str y u)) (.str (n && k) (x ++ y)) s := by
  intro Q E h
  have hs := lim_le
  refine P.add_str ?_
  split
  · rename_i e
    rw [str_len0 e, Str.empty_append] at h
    exact h _ s M .refl hb Adv.refl ⟨u, rfl, fun z => hy (by simp at z; exact z.2)⟩
  · split
    · rename_i e
      rw [str_len0 e, Str.append_empty] at h
      exact h _ s M .refl hb Adv.refl ⟨t, rfl, fun z => hx (by simp at z; exact z.1)⟩
    · exact ⟨by rw [str_app]; lia, h _ _ (M.put s.toks (x ++ y)) (Gh.put_le hb) (Gh.put_tb hb) (AdvE.tok (Nat.le_succ _)) ⟨s.toks, rfl, fun _ => ⟨Nat.ne_of_gt ht, Gh.put_at⟩⟩⟩

theorem mul_str_ev {x : Str} {t u : Tok} {b : Int} (h1 : 2 ≤ b) (h2 : b ≤ 1000) (h3 : 1 ≤ x.length) (h4 : x.length ≤ 1000) :
    EvAt0 prog w A M (binaryOp .Mult (.str x t) (.int b u)) (.str false (Txt.mul x b)) s := by
  intro Q E h
  refine wpAny_with_toks (Nat.le_refl s.toks) (SB.mul ⟨by simp; lia, fun _ _ => ?_, fun _ _ => tooLong_small ?_⟩ fun t' k hk => h _ _ (AdvE.tok hk) ⟨t', rfl, fun z => by cases z⟩)
  · have : (x.length : Int) ≤ 1000 := by lia
    have q : (1000 : Int) ≤ (2 ^ 63 - 1) / b := by
      have : (1000 : Int) * b ≤ 2 ^ 63 - 1 := by lia
      exact Int.le_ediv_of_mul_le (by lia) this
    lia
  · have e : b.toNat ≤ 1000 := by lia
    calc x.length * b.toNat ≤ 1000 * 1000 := Nat.mul_le_mul h4 e
      _ ≤ 1000000 := by lia

theorem VRs.toArr {M : Gh} {h : Heap} {vs ws : List V} {a b : Array Value} (x : VRs M h vs a.toList) (y : VRs M h ws b.toList) : VRs M h (vs ++ ws) (a ++ b).toList := by
  rw [Array.toList_append]; exact VRs.append x y
theorem VRs.size {M : Gh} {h : Heap} {vs : List V} {a : Array Value} (x : VRs M h vs a.toList) : a.size = vs.length := by
  have := VRs.length x; simpa using this

/-- a new list -/
theorem new_list {M : Gh} {items : Array Value} {vs : List V} (hM : Al M.m s.heap) (r : VRs M s.heap vs items.toList) :
    VR M (s.heap.push { cls := .type "list", data := .seq items }) (.lst vs) (.ref s.heap.objs.size) :=
  ⟨_, items, rfl, hM.fresh, ⟨0, Heap.get?_push_size _ rfl⟩, VRs.keep (fun b o e => Heap.get?_push_of_some _ e) r⟩
theorem new_tup {M : Gh} {items : Array Value} {vs : List V} (hM : Al M.m s.heap) (r : VRs M s.heap vs items.toList) :
    VR M (s.heap.push { cls := .type "tuple", data := .seq items }) (.tup vs) (.ref s.heap.objs.size) :=
  ⟨_, items, rfl, hM.fresh, ⟨0, Heap.get?_push_size _ rfl⟩, VRs.keep (fun b o e => Heap.get?_push_of_some _ e) r⟩

theorem add_list_ev {a b : V} {xs ys : List V} {x y : Value} (ha : seqOf a = some xs) (hb : seqOf b = some ys) (hM : Al M.m s.heap) (r : VR M s.heap a x) (q : VR M s.heap b y) (hl : xs.length + ys.length ≤ lim) :
    EvAt0 prog w A M (binaryOp .Add x y) (.lst (xs ++ ys)) s := by
  intro Q E h
  obtain ⟨a₁, i₁, rfl, ⟨n₁, l₁⟩, r₁⟩ := r.list ha
  obtain ⟨a₂, i₂, rfl, ⟨n₂, l₂⟩, r₂⟩ := q.list hb
  have hs := lim_le
  exact P.add_list l₁ l₂ (h _ _ AdvE.push (new_list hM (VRs.toArr r₁ r₂))) (by rw [VRs.size r₁, VRs.size r₂]; lia)

theorem binV_ok {op : Operator} {a b v : V} {x y : Value} (e : binV op a b = some v) (hb : Tb M s.toks) (ht : 1 ≤ s.toks) (hM : Al M.m s.heap) (r : VR M s.heap a x) (q : VR M s.heap b y) :
    EvAt prog w A M (binaryOp op x y) v s := by
  unfold binV at e
  split at e
  · unfold addV at e
    split at e
    · cases e; obtain ⟨t, rfl⟩ := r; obtain ⟨u, rfl⟩ := q
      exact EvAt0.ev (fun Q E h => P.add_int (h _ _ (AdvE.tok (Nat.le_succ _)) ⟨_, rfl⟩)) hb
    · split at e
      · rename_i hs
        cases e; obtain ⟨t, rfl, h1⟩ := r; obtain ⟨u, rfl, h2⟩ := q
        exact add_str_ev hb h1 h2 ht hs
      · cases e
    · split at e
      · rename_i h1 h2
        split at e
        · rename_i hs; cases e; exact (add_list_ev h1 h2 hM r q hs).ev hb
        · cases e
      · cases e
  · obtain ⟨i, j, rfl, rfl, g⟩ := int2_some e
    cases g; obtain ⟨t, rfl⟩ := r; obtain ⟨u, rfl⟩ := q
    exact EvAt0.ev (fun Q E h => P.sub_int (h _ _ (AdvE.tok (Nat.le_succ _)) ⟨_, rfl⟩)) hb
  · unfold mulV at e
    split at e
    · obtain ⟨i, j, h, rfl, g⟩ := int2_some e
      cases h
      split at g
      · rename_i hs
        cases g; obtain ⟨t, rfl⟩ := r; obtain ⟨u, rfl⟩ := q
        exact EvAt0.ev (fun Q E h => P.mul_int (h _ _ (AdvE.tok (Nat.le_succ _)) ⟨_, rfl⟩) (intMulOk_small (by simp at hs; exact hs.1))) hb
      · cases g
    · split at e
      · rename_i hs
        cases e; obtain ⟨t, rfl, h1⟩ := r; obtain ⟨u, rfl⟩ := q
        simp only [Bool.and_eq_true, decide_eq_true_eq] at hs
        exact (mul_str_ev hs.1.1.1 hs.1.1.2 hs.1.2 hs.2).ev hb
      · cases e
    · cases e
  · obtain ⟨i, j, rfl, rfl, g⟩ := int2_some e
    split at g
    · cases g
    · rename_i hs
      cases g; obtain ⟨t, rfl⟩ := r; obtain ⟨u, rfl⟩ := q
      refine EvAt0.ev (fun Q E h => AutoIntOpsIf.mod ?_) hb
      rw [if_neg hs]; exact h _ _ (AdvE.tok (Nat.le_succ _)) ⟨_, rfl⟩
  · obtain ⟨i, j, rfl, rfl, g⟩ := int2_some e
    split at g
    · cases g
    · rename_i hs
      cases g; obtain ⟨t, rfl⟩ := r; obtain ⟨u, rfl⟩ := q
      refine EvAt0.ev (fun Q E h => AutoIntOpsIf.floordiv ?_) hb
      simp only [Bool.or_eq_true, not_or] at hs
      rw [if_neg hs.1, if_neg hs.2]; exact h _ _ (AdvE.tok (Nat.le_succ _)) ⟨_, rfl⟩
  · cases e

end Mine

namespace Mine
open PySem PySem.W PySem.Calls PyProof.Rows

variable {prog : Program} {w : World} {A : Around} {M : Gh} {s : Shared}

/-! equality of items -/
noncomputable def eqS : V → V → Option Bool
  | .int a, .int b => some (a == b)
  | .str _ a, .str _ b => some (a == b)
  | _, _ => none
noncomputable def eqVal : Value → Value → Bool
  | .int a _, .int b _ => a == b
  | .str a _, .str b _ => a == b
  | _, _ => false
theorem eqS_ok {a b : V} {r : Bool} {h : Heap} {x y : Value} (e : eqS a b = some r) (hx : VR M h a x) (hy : VR M h b y) : MeetsSeq.EqGives x y r ∧ eqVal x y = r := by
  unfold eqS at e
  split at e
  · cases e; obtain ⟨t, rfl⟩ := hx; obtain ⟨u, rfl⟩ := hy; exact ⟨MeetsSeq.EqGives.int _ _ _ _, rfl⟩
  · cases e; obtain ⟨t, rfl, _⟩ := hx; obtain ⟨u, rfl, _⟩ := hy; exact ⟨eqGives_str _ _ _ _, rfl⟩
  · cases e
noncomputable def eqsL : List V → List V → Option Bool
  | [], [] => some true
  | a :: as, b :: bs => match eqS a b, eqsL as bs with
    | some p, some q => some (p && q)
    | _, _ => none
  | _, _ => none
noncomputable def inL : List V → V → Option Bool
  | [], _ => some false
  | a :: as, x => match eqS a x, inL as x with
    | some p, some q => some (p || q)
    | _, _ => none
noncomputable def idxL : List V → V → Option Nat
  | [], _ => none
  | a :: as, x => match eqS a x with
    | some true => some 0
    | some false => (idxL as x).map (· + 1)
    | none => none
theorem inL_ok {h : Heap} {b : V} {y : Value} (hy : VR M h b y) : ∀ {vs : List V} {xs : List Value} {r : Bool}, inL vs b = some r → VRs M h vs xs → (∀ x, x ∈ xs → MeetsSeq.EqGives x y (eqVal x y)) ∧ xs.any (eqVal · y) = r
  | [], _, r, e, q => by rw [show _ = [] from q]; cases e; exact ⟨fun _ hm => absurd hm List.not_mem_nil, rfl⟩
  | a :: as, _, r, e, ⟨z, zs, hz, qa, qs⟩ => by
    subst hz
    unfold inL at e
    split at e
    · rename_i p q h1 h2
      cases e
      obtain ⟨g, k⟩ := eqS_ok h1 qa hy
      obtain ⟨g', k'⟩ := inL_ok hy h2 qs
      exact ⟨fun x hm => by
        rcases List.mem_cons.mp hm with rfl | hm
        · rw [k]; exact g
        · exact g' x hm, by rw [List.any_cons, k, k']⟩
    · cases e
theorem idxL_ok {h : Heap} {b : V} {y : Value} (hy : VR M h b y) : ∀ {vs : List V} {xs : List Value} {j : Nat}, idxL vs b = some j → VRs M h vs xs → ∃ hj : j < xs.length, eqVal xs[j] y = true ∧ ∀ m (hm : m < xs.length), m < j → eqVal xs[m] y = false
  | [], _, j, e, _ => by cases e
  | a :: as, _, j, e, ⟨z, zs, hz, qa, qs⟩ => by
    subst hz
    unfold idxL at e
    split at e
    · rename_i h1
      cases e
      exact ⟨Nat.succ_pos _, (eqS_ok h1 qa hy).2, fun m _ hm => (nomatch hm)⟩
    · rename_i h1
      cases q : idxL as b with
      | none => rw [q] at e; cases e
      | some k =>
        rw [q] at e; cases e
        obtain ⟨hj, t, f⟩ := idxL_ok hy q qs
        refine ⟨by rw [List.length_cons]; exact Nat.succ_lt_succ hj, by simpa using t, fun m hm hlt => ?_⟩
        cases m with
        | zero => exact (eqS_ok h1 qa hy).2
        | succ m => simpa using f m (Nat.lt_of_succ_lt_succ hm) (Nat.lt_of_succ_lt_succ hlt)
    · cases e
theorem eqsL_ok {h : Heap} : ∀ {as bs : List V} {xs ys : List Value} {r : Bool}, eqsL as bs = some r → VRs M h as xs → VRs M h bs ys →
    xs.length = ys.length ∧ (∀ j (h1 : j < xs.length) (h2 : j < ys.length), MeetsSeq.EqGives xs[j] ys[j] (eqVal xs[j] ys[j])) ∧ (List.zipWith eqVal xs ys).all id = r
  | [], [], _, _, r, e, q, p => by rw [show _ = [] from q, show _ = [] from p]; cases e; exact ⟨rfl, fun j h1 => (nomatch h1), rfl⟩
  | [], _ :: _, _, _, _, e, _, _ => by cases e
  | _ :: _, [], _, _, _, e, _, _ => by cases e
  | a :: as, b :: bs, _, _, r, e, ⟨z, zs, hz, qa, qs⟩, ⟨y, ys, hy, pa, ps⟩ => by
    subst hz hy
    unfold eqsL at e
    split at e
    · rename_i p q h1 h2
      cases e
      obtain ⟨g, k⟩ := eqS_ok h1 qa pa
      obtain ⟨l, g', k'⟩ := eqsL_ok h2 qs ps
      refine ⟨by rw [List.length_cons, List.length_cons, l], fun j hj1 hj2 => ?_, by rw [List.zipWith_cons_cons, List.all_cons, k']; simp [k]⟩
      cases j with
      | zero => show MeetsSeq.EqGives z y (eqVal z y); rw [k]; exact g
      | succ j => exact g' j (by simpa using hj1) (by simpa using hj2)
    · cases e

theorem range_all_zip : ∀ (xs ys : List Value), xs.length = ys.length → (List.range xs.length).all (fun j => eqVal (xs.getD j .none) (ys.getD j .none)) = (List.zipWith eqVal xs ys).all id := by
  intro xs
  induction xs with
  | nil => intro ys h; rfl
  | cons x xs ih =>
    intro ys h
    cases ys with
    | nil => cases h
    | cons y ys =>
      rw [List.length_cons, List.range_succ_eq_map, List.all_cons, List.all_map, List.zipWith_cons_cons, List.all_cons, ← ih ys (by simpa using h)]
      rfl

noncomputable def isNone : V → Bool | .none => true | _ => false
noncomputable def isB : V → V → Option Bool
  | .bool a, .bool b => some (a == b)
  | .none, .none => some true
  | .none, .int _ => some false
  | .none, .bool _ => some false
  | .int _, .none => some false
  | .bool _, .none => some false
  | _, _ => none
noncomputable def cmpI (f : Int → Int → Bool) : V → V → Option Bool
  | .int a, .int b => some (f a b)
  | _, _ => none
theorem cmpI_some {f : Int → Int → Bool} {a b : V} {r : Bool} (h : cmpI f a b = some r) : ∃ i j, a = .int i ∧ b = .int j ∧ f i j = r := by
  cases a <;> first | (cases h; done) | skip
  cases b <;> first | (cases h; done) | skip
  exact ⟨_, _, rfl, rfl, Option.some.inj h⟩
noncomputable def inV : V → V → Option Bool
  | .str _ a, .str _ b => some (Txt.contains b a)
  | a, b => match seqOf b with | some xs => inL xs a | none => none
noncomputable def eqV (a b : V) : Option Bool := match seqOf a, seqOf b with
  | some xs, some ys => if xs.length == ys.length then eqsL xs ys else some false
  | _, _ => eqS a b
noncomputable def neV (a b : V) : Option Bool := match seqOf a, seqOf b with
  | some xs, some ys => if xs.length == ys.length then (eqsL xs ys).map (!·) else some true
  | _, _ => (eqS a b).map (!·)
noncomputable def cmpV (op : CmpOp) (a b : V) : Option Bool := match op with
  | .Lt => cmpI (fun a b => decide (a < b)) a b
  | .Gt => cmpI (fun a b => decide (b < a)) a b
  | .LtE => cmpI (fun a b => decide (a ≤ b)) a b
  | .GtE => cmpI (fun a b => decide (b ≤ a)) a b
  | .Is => isB a b
  | .IsNot => (isB a b).map (!·)
  | .In => inV a b
  | .NotIn => (inV a b).map (!·)
  | .Eq => eqV a b
  | .NotEq => neV a b

noncomputable abbrev CmpAt (prog : Program) (w : World) (A : Around) (t : Sem Value) (b : Bool) (s : Shared) : Prop :=
  ∀ (Q E : Value → Shared → Prop), Q (.bool b) s → wpAny (model prog w) A t Q E s

theorem isB_ok {a b : V} {r : Bool} {h : Heap} {x y : Value} (e : isB a b = some r) (hx : VR M h a x) (hy : VR M h b y) : PySem.plainIs x y = true ∧ (x == y) = r := by
  unfold isB at e
  split at e <;> first | cases e | skip
  · rw [show x = _ from hx, show y = _ from hy]; refine ⟨rfl, ?_⟩; rename_i a b; cases a <;> cases b <;> decide
  · rw [show x = _ from hx, show y = _ from hy]; exact ⟨rfl, by decide⟩
  · rw [show x = _ from hx]; obtain ⟨t, rfl⟩ := hy; exact ⟨rfl, by simp⟩
  · rw [show x = _ from hx, show y = _ from hy]; exact ⟨rfl, by simp⟩
  · rw [show y = _ from hy]; obtain ⟨t, rfl⟩ := hx; exact ⟨rfl, by simp⟩
  · rw [show x = _ from hx, show y = _ from hy]; exact ⟨rfl, by simp⟩

theorem inList_ok {x y : Value} {a b : V} {xs : List V} {r : Bool} (hb : seqOf b = some xs) (e : inL xs a = some r) (hx : VR M s.heap a x) (hy : VR M s.heap b y) : CmpAt prog w A (compareOp .In x y) r s ∧ CmpAt prog w A (compareOp .NotIn x y) (!r) s := by
  obtain ⟨l, items, rfl, hl, q⟩ := hy.list hb
  obtain ⟨g, k⟩ := inL_ok hx e q
  have k' : items.any (eqVal · x) = r := by rw [← k, ← Array.any_toList]
  exact ⟨fun Q E h => SeqAt.in_listAt (eqVal · x) hl.isList (fun z hz => (g z (Array.mem_toList_iff.mpr hz)).at _ _) (by rw [k']; exact h),
    fun Q E h => SeqAt.notIn_listAt (eqVal · x) hl.isList (fun z hz => (g z (Array.mem_toList_iff.mpr hz)).at _ _) (by rw [k']; exact h)⟩

theorem rcNe {x y : Value} {b : Bool} (h : SeqAt.RcNeAt A s x y b) : CmpAt prog w A (compareOp .NotEq x y) b s := fun Q E hq => h prog w E Q hq
theorem rcEq {x y : Value} {b : Bool} (h : SeqAt.RcAt A s x y b) : CmpAt prog w A (compareOp .Eq x y) b s := fun Q E hq => h prog w E Q hq

theorem eqList_ok {x y : Value} {a b : V} {xs ys : List V} {r : Bool} (hu : A.units < cLine) (ha : seqOf a = some xs) (hb : seqOf b = some ys) (e : eqsL xs ys = some r) (hx : VR M s.heap a x) (hy : VR M s.heap b y) :
    CmpAt prog w A (compareOp .Eq x y) r s ∧ CmpAt prog w A (compareOp .NotEq x y) (!r) s := by
  obtain ⟨l, i₁, rfl, hl, q⟩ := hx.list ha
  obtain ⟨m, i₂, rfl, hm, p⟩ := hy.list hb
  obtain ⟨z, g, k⟩ := eqsL_ok e q p
  have hz : i₁.size = i₂.size := by simpa using z
  have he : ∀ j (h1 : j < i₁.size) (h2 : j < i₂.size), SeqAt.EqAt A.in1 s i₁[j] i₂[j] (eqVal (i₁.toList.getD j .none) (i₂.toList.getD j .none)) := fun j h1 h2 => by
    have := g j (by simpa using h1) (by simpa using h2)
    simp only [Array.getElem_toList] at this
    simp only [List.getD_eq_getElem?_getD, Array.getElem?_toList, h1, h2, Array.getElem?_eq_getElem, Option.getD_some]
    exact this.at _ _
  have e' := range_all_zip _ _ z
  rw [k, Array.length_toList] at e'
  exact ⟨rcEq (by rw [← e']; exact SeqAt.RcAt.lists hl.isList hm.isList hz hu he), rcNe (by rw [← e']; exact SeqAt.RcNeAt.lists hl.isList hm.isList hz hu he)⟩
theorem neLen_ok {x y : Value} {a b : V} {xs ys : List V} (hu : A.units < cLine) (ha : seqOf a = some xs) (hb : seqOf b = some ys) (e : ¬ (xs.length == ys.length) = true) (hx : VR M s.heap a x) (hy : VR M s.heap b y) :
    CmpAt prog w A (compareOp .Eq x y) false s ∧ CmpAt prog w A (compareOp .NotEq x y) true s := by
  obtain ⟨l, i₁, rfl, hl, q⟩ := hx.list ha
  obtain ⟨m, i₂, rfl, hm, p⟩ := hy.list hb
  have hz : (i₁.size != i₂.size) = true := by rw [VRs.size q, VRs.size p]; simpa using e
  exact ⟨rcEq (SeqAt.RcAt.lists_lengths hl.isList hm.isList hz hu), rcNe (SeqAt.RcNeAt.lists_lengths hl.isList hm.isList hz hu)⟩
theorem eqOne_ok {x y : Value} {a b : V} {r : Bool} (e : eqS a b = some r) (hx : VR M s.heap a x) (hy : VR M s.heap b y) :
    CmpAt prog w A (compareOp .Eq x y) r s ∧ CmpAt prog w A (compareOp .NotEq x y) (!r) s := by
  unfold eqS at e
  split at e
  · cases e; obtain ⟨t, rfl⟩ := hx; obtain ⟨u, rfl⟩ := hy; exact ⟨fun Q E h => P.eq_int h, fun Q E h => P.ne_int h⟩
  · cases e; obtain ⟨t, rfl, _⟩ := hx; obtain ⟨u, rfl, _⟩ := hy; exact ⟨fun Q E h => PyProof.Rows.eq_str h, fun Q E h => PyProof.Rows.ne_str h⟩
  · cases e

theorem inV_ok {a b : V} {r : Bool} {x y : Value} (e : inV a b = some r) (hx : VR M s.heap a x) (hy : VR M s.heap b y) : CmpAt prog w A (compareOp .In x y) r s ∧ CmpAt prog w A (compareOp .NotIn x y) (!r) s := by
  unfold inV at e
  split at e
  · cases e; obtain ⟨t, rfl, _⟩ := hx; obtain ⟨u, rfl, _⟩ := hy; exact ⟨fun Q E h => SB.contains h, fun Q E h => SB.notContains h⟩
  · split at e
    · rename_i xs hb; exact inList_ok hb e hx hy
    · cases e
theorem cmpV_ok {op : CmpOp} {a b : V} {r : Bool} {x y : Value} (hu : A.units < cLine) (e : cmpV op a b = some r) (hx : VR M s.heap a x) (hy : VR M s.heap b y) : CmpAt prog w A (compareOp op x y) r s := by
  cases op with
  | Lt => obtain ⟨i, j, rfl, rfl, rfl⟩ := cmpI_some e; obtain ⟨t, rfl⟩ := hx; obtain ⟨u, rfl⟩ := hy; exact fun Q E h => P.lt_int h
  | Gt => obtain ⟨i, j, rfl, rfl, rfl⟩ := cmpI_some e; obtain ⟨t, rfl⟩ := hx; obtain ⟨u, rfl⟩ := hy; exact fun Q E h => P.gt_int h
  | LtE => obtain ⟨i, j, rfl, rfl, rfl⟩ := cmpI_some e; obtain ⟨t, rfl⟩ := hx; obtain ⟨u, rfl⟩ := hy; exact fun Q E h => P.le_int h
  | GtE => obtain ⟨i, j, rfl, rfl, rfl⟩ := cmpI_some e; obtain ⟨t, rfl⟩ := hx; obtain ⟨u, rfl⟩ := hy; exact fun Q E h => P.ge_int h
  | Is => obtain ⟨p, q⟩ := isB_ok e hx hy; exact fun Q E h => wpAny_is_plain p (by rw [q]; exact h)
  | IsNot =>
    obtain ⟨k, z, rfl⟩ := Option.map_eq_some_iff.mp e
    obtain ⟨p, q⟩ := isB_ok z hx hy; exact fun Q E h => wpAny_isNot_plain p (by rw [q]; exact h)
  | In => exact (inV_ok e hx hy).1
  | NotIn =>
    obtain ⟨k, z, rfl⟩ := Option.map_eq_some_iff.mp e
    exact (inV_ok z hx hy).2
  | Eq =>
    replace e : eqV a b = some r := e
    unfold eqV at e
    split at e
    · rename_i xs ys ha hb
      split at e
      · exact (eqList_ok hu ha hb e hx hy).1
      · rename_i hl; cases e; exact (neLen_ok hu ha hb hl hx hy).1
    · exact (eqOne_ok e hx hy).1
  | NotEq =>
    replace e : neV a b = some r := e
    unfold neV at e
    split at e
    · rename_i xs ys ha hb
      split at e
      · obtain ⟨k, z, rfl⟩ := Option.map_eq_some_iff.mp e
        exact (eqList_ok hu ha hb z hx hy).2
      · rename_i hl; cases e; exact (neLen_ok hu ha hb hl hx hy).2
    · obtain ⟨k, z, rfl⟩ := Option.map_eq_some_iff.mp e
      exact (eqOne_ok z hx hy).2

noncomputable def truthV : V → Option Bool
  | .none => some false
  | .bool b => some b
  | .int i => some (i != 0)
  | .str _ s => if s.length ≤ lim then some ((s.length : Int) != 0) else none
  | .lst vs => if vs.length ≤ lim then some (!vs.isEmpty) else none
  | .olst vs => if vs.length ≤ lim then some (!vs.isEmpty) else none
  | _ => none
theorem truthList_ok {v : V} {vs : List V} {x : Value} (hv : seqOf v = some vs) (hl : vs.length ≤ lim) (r : VR M s.heap v x) : TrAt prog w A (truthy x) (!vs.isEmpty) s := by
  obtain ⟨a, items, rfl, l, q⟩ := r.list hv
  have hz := VRs.size q
  have e : items.isEmpty = vs.isEmpty := by
    cases vs with
    | nil => rw [Array.eq_empty_of_size_eq_zero hz]; rfl
    | cons _ _ =>
      cases q : items.isEmpty with
      | false => rfl
      | true => rw [Array.isEmpty_iff.mp q] at hz; cases hz
  have := lim_le
  exact fun Q E h => wpAny_truthy_list l.isList (by rw [hz]; unfold lim at hl; lia) (by rw [e]; exact h _ (AdvE.tok (by lia)))
theorem truthV_ok {v : V} {b : Bool} {x : Value} (e : truthV v = some b) (r : VR M s.heap v x) : TrAt prog w A (truthy x) b s := by
  unfold truthV at e
  split at e
  · cases e; rw [show x = _ from r]; exact fun Q E h => truthy_none (h _ Adv.refl)
  · cases e; rw [show x = _ from r]; exact fun Q E h => wpAny_truthy_bool (h _ Adv.refl)
  · cases e; obtain ⟨t, rfl⟩ := r; exact fun Q E h => P.truthy_int (h _ Adv.refl)
  · split at e
    · rename_i hl
      cases e; obtain ⟨t, rfl, _⟩ := r
      exact fun Q E h => P.truthy_str (by unfold lim at hl; lia) (h _ (AdvE.tok (by lia)))
    · cases e
  · split at e
    · rename_i hl; cases e; exact truthList_ok rfl hl r
    · cases e
  · split at e
    · rename_i hl; cases e; exact truthList_ok rfl hl r
    · cases e
  · cases e

end Mine

namespace Mine
open PySem PySem.W PySem.Calls PyProof.Rows

variable {prog : Program} {w : World} {A : Around} {M : Gh} {s : Shared}

/-! items and slices -/
noncomputable def atV (xs : List V) (i : Int) : Option V :=
  if smallI i then (if 0 ≤ i then xs[i.toNat]? else if -(xs.length : Int) ≤ i then xs[(i + xs.length).toNat]? else none) else none
noncomputable def subV : V → V → Option V
  | .tup xs, .int i => atV xs i
  | .lst xs, .int i => atV xs i
  | .olst xs, .int i => atV xs i
  | _, _ => none
noncomputable def sliceV (v : V) (lo hi : Option Int) : Option V := match v with
  | .lst xs => if xs.length ≤ lim then some (.lst ((xs.drop (lo.elim 0 (clipAt xs.length))).take (hi.elim xs.length (clipAt xs.length) - lo.elim 0 (clipAt xs.length)))) else none
  | .str _ x => if x.length ≤ lim then some (.str false (Txt.slice x lo hi)) else none
  | _ => none

theorem atV_ok {h : Heap} {xs : List V} {items : Array Value} {i : Int} {v : V} (e : atV xs i = some v) (r : VRs M h xs items.toList) :
    -2147483648 ≤ i ∧ i ≤ 2147483648 ∧ ∃ k x, seqIndex? i items.size = some k ∧ items[k]? = some x ∧ VR M h v x := by
  have hz := VRs.size r
  unfold atV at e
  split at e
  · rename_i hs
    unfold smallI at hs
    simp only [Bool.and_eq_true, decide_eq_true_eq] at hs
    refine ⟨hs.1, hs.2, ?_⟩
    split at e
    · rename_i h0
      obtain ⟨x, hx, q⟩ := VRs.get r e
      have hl : i.toNat < items.size := by
        obtain ⟨z, _⟩ := List.getElem?_eq_some_iff.mp e
        rw [hz]; exact z
      exact ⟨i.toNat, x, seqIndex_of h0 (by lia), by simpa using hx, q⟩
    · rename_i h0
      split at e
      · rename_i h1
        obtain ⟨x, hx, q⟩ := VRs.get r e
        exact ⟨(i + items.size).toNat, x, seqIndex_neg (by lia) (by rw [hz]; exact h1), by rw [hz]; simpa using hx, q⟩
      · cases e
  · cases e

theorem getItem_list_ev {l : Addr} {items : Array Value} {i : Int} {t : Tok} {v : V} {xs : List V} (hl : s.heap.PlainList l items) (e : atV xs i = some v) (r : VRs M s.heap xs items.toList) :
    EvAt0 prog w A M (getItem (.ref l) (.int i t)) v s := by
  intro Q E h
  have hz := VRs.size r
  unfold atV at e
  split at e
  · rename_i hs
    unfold smallI at hs
    simp only [Bool.and_eq_true, decide_eq_true_eq] at hs
    split at e
    · rename_i h0
      obtain ⟨x, hx, q⟩ := VRs.get r e
      exact wpAny_getItem_list hl.isList h0 (by lia) (by simpa using hx) (h _ _ Adv.refl q)
    · rename_i h0
      split at e
      · rename_i h1
        obtain ⟨x, hx, q⟩ := VRs.get r e
        exact wpAny_getItem_list_neg hl.isList (by lia) (by rw [hz]; exact h1) (by lia) (by rw [hz]; simpa using hx) (h _ _ Adv.refl q)
      · cases e
  · cases e

/-- the tail of a subscript, whatever the slice's words -/
theorem sub_tail {value slice : Expr} {o i : Value} {T id : String} {v : V} (hT : s.TypeIs o T) (hl : typeLookup (.type T) "__getitem__" = pure (some (.builtin id)))
    (h : EvAt0 prog w A M (getItem o i) v s) : EvAt0 prog w A M (PyProof.Rows.subscriptTail value slice o i) v s := by
  intro Q E hQ
  unfold PyProof.Rows.subscriptTail
  refine wpAny_bind ?_
  rw [getitemInPython_of_ne hT.not_modules]
  refine wpAny_bind (wpAny_specialOf hT hl ?_)
  have fin : wpAny (model prog w) A (subscripted slice false o i) (fun r s₃ => wpAny (model prog w) A (letTemporaryGo value o r >>= fun _ => pure r) Q E s₃) E s := by
    have e : ∀ vs, wpAny (model prog w) A (operate vs (getItem o i)) (fun r s₃ => wpAny (model prog w) A (letTemporaryGo value o r >>= fun _ => pure r) Q E s₃) E s := fun vs =>
      wpAny_operating (h _ _ fun x s' a r => wpAny_bind (wpAny_letTemporaryGo (wpAny_pure (hQ x s' a r))))
    unfold subscripted
    split
    · exact e _
    · rename_i h; cases h
    · exact e _
  first
    | exact wpAny_pure (wpAny_bind fin)
    | exact wpAny_bind (wpAny_pure (wpAny_bind fin))
    | exact wpAny_bind fin

theorem subV_ok {value slice : Expr} {a b v : V} {x y : Value} (e : subV a b = some v) (hx : VR M s.heap a x) (hy : VR M s.heap b y) :
    EvAt0 prog w A M (PyProof.Rows.subscriptTail value slice x y) v s := by
  have lists : ∀ {xs : List V} {i : Int}, seqOf a = some xs → b = .int i → atV xs i = some v → EvAt0 prog w A M (PyProof.Rows.subscriptTail value slice x y) v s := by
    intro xs i ha hb e'
    obtain ⟨l, items, rfl, hl, r⟩ := hx.list ha
    subst hb
    obtain ⟨t, rfl⟩ := hy
    exact sub_tail hl.isList.typeIs slot_list_getitem.lookup (getItem_list_ev hl e' r)
  unfold subV at e
  split at e
  · obtain ⟨t, items, rfl, _, ⟨n, ht⟩, r⟩ := hx
    obtain ⟨u, rfl⟩ := hy
    refine sub_tail (PT.tup ⟨n, ht⟩).typeIs slot_tuple_getitem.lookup fun Q E h => ?_
    obtain ⟨h1, h2, k, x, hk, hx, q⟩ := atV_ok e r
    exact P.getItem_tuple ht (by lia) (by lia) hk hx (h _ _ Adv.refl q)
  · exact lists rfl rfl e
  · exact lists rfl rfl e
  · cases e

inductive PartIs : Value → Option Int → Prop
  | none : PartIs .none none
  | int (i : Int) (t : Tok) : PartIs (.int i t) (some i)
theorem PartIs.part {x : Value} {o : Option Int} (h : PartIs x o) : IsPart x o := by cases h <;> constructor
theorem PartIs.tok {x : Value} {o : Option Int} (h : PartIs x o) : ∃ p : Option (Int × Tok), x = partValue p ∧ p.map (·.1) = o := by
  cases h with
  | none => exact ⟨Option.none, rfl, rfl⟩
  | int i t => exact ⟨Option.some (i, t), rfl, rfl⟩

theorem Txt.slice_made {x : Str} {t : Tok} {l u : Option (Int × Tok)} {Q : Value → Shared → Prop} (hsz : x.length ≤ sizeLine) (h : ∀ t' k, s.toks ≤ k → Q (.str (Txt.slice x (l.map (·.1)) (u.map (·.1))) t') { s with toks := k }) :
    (sliceMade x t l u none).post Q s := by
  unfold sliceMade slicePicked
  have hle := Txt.slice_le x (l.map (·.1)) (u.map (·.1))
  unfold Txt.slice at h hle
  simp only [Option.map_none, Option.getD_none] at h hle ⊢
  split
  · rename_i c; rw [if_pos c] at h; exact h t s.toks (Nat.le_refl _)
  · rename_i c; rw [if_neg c] at h hle; exact ⟨Nat.le_trans hle hsz, h _ _ (Nat.le_succ _)⟩

theorem sliceV_ok {value slice : Expr} {a v : V} {lo hi : Option Int} {x l u : Value} (e : sliceV a lo hi = some v) (hM : Al M.m s.heap) (hx : VR M s.heap a x) (hl : PartIs l lo) (hu : PartIs u hi) :
    ∀ (Q E : Value → Shared → Prop), (∀ x s', AdvE s s' → VR M s'.heap v x → Q x s') → wpAny (model prog w) A (PyProof.Rows.subscriptTail value slice x (.ref s.heap.objs.size)) Q E { s with heap := s.heap.push { cls := .type "slice", data := .fields #[l, u, .none] } } := by
  intro Q E h
  have hM' : Al M.m (s.heap.push { cls := .type "slice", data := .fields #[l, u, .none] }) := fun b hb => let ⟨o, e⟩ := hM b hb; ⟨o, Heap.get?_push_of_some _ e⟩
  have adv : AdvE s { s with heap := s.heap.push { cls := .type "slice", data := .fields #[l, u, .none] } } := AdvE.push
  have hx' : VR M (s.heap.push { cls := .type "slice", data := .fields #[l, u, .none] }) a x := hx.keep (St.push _ _)
  have key : ∀ (s₁ : Shared), s₁ = { s with heap := s.heap.push { cls := .type "slice", data := .fields #[l, u, .none] } } → EvAt0 prog w A M (PyProof.Rows.subscriptTail value slice x (.ref s.heap.objs.size)) v s₁ := by
    rintro s₁ rfl
    unfold sliceV at e
    split at e
    · rename_i xs
      split at e
      · rename_i hle
        cases e
        obtain ⟨a, items, rfl, _, hp, r⟩ := hx'
        have hz := VRs.size r
        have := lim_le
        refine sub_tail hp.isList.typeIs slot_list_getitem.lookup fun Q E h => ?_
        refine wpAny_getItem_list_slice hp.isList (Heap.IsSliceOf.new ..) hl.part hu.part .none (by simp) (h _ _ AdvE.push (new_list hM' ?_)) (by lia)
        rw [slicePick_plain, hz]
        exact VRs.take (VRs.drop r)
      · cases e
    · rename_i n z
      split at e
      · rename_i hle
        cases e
        obtain ⟨t, rfl, _⟩ := hx'
        obtain ⟨p, rfl, hp⟩ := hl.tok
        obtain ⟨q, rfl, hq⟩ := hu.tok
        have := lim_le
        refine sub_tail (typeIs_str _ _ _) F.slot_str_getitem.lookup fun Q E h => ?_
        refine wpAny_getItem_str_slice (l := p) (u := q) (st := none) ⟨_, Heap.get?_push_size _ rfl, rfl, rfl⟩ rfl (Txt.slice_made (by lia) fun t' k hk => h _ _ (AdvE.tok hk) ⟨t', by rw [hp, hq], fun z => by cases z⟩)
      · cases e
    · cases e
  exact key _ rfl Q E fun x s' a r => h x s' (AdvE.trans adv a) r

end Mine

namespace Mine
open PySem PySem.W PySem.Calls PyProof.Rows

/-! a small syntax of our own, and what it computes -/
inductive T where
  | t1 (p i : Nat) | t2 (p p1 i1 p2 i2 : Nat)
mutual
inductive X where
  | var (p i : Nat) | gname (p : Nat) (id : Str)
  | cint (p n : Nat) | neg (p q n : Nat) | cstr (p : Nat) (s : Str) | cbool (p : Nat) (b : Bool) | cnone (p : Nat)
  | bin (p : Nat) (op : Operator) (a b : X)
  | cmp (p : Nat) (op : CmpOp) (a b : X)
  | chain (p : Nat) (op1 op2 : CmpOp) (a b c : X)
  | boo (p : Nat) (op : BoolOp) (a b : X)
  | iseq (p p1 p2 p3 p4 p5 p6 i j : Nat)
  | not_ (p : Nat) (a : X)
  | ite (p : Nat) (c a b : X)
  | gcall (p q : Nat) (id : Str) (args : XL)
  | bcall (p q : Nat) (id : Str) (args : XL)
  | meth (p q : Nat) (o : X) (name : Str) (args : XL)
  | repl (p q : Nat) (o : X) (p1 : Nat) (y : Str) (p2 : Nat) (z : Str)
  | idx (p : Nat) (a i : X)
  | slc (p q : Nat) (a lo hi : X) | slf (p q : Nat) (a lo : X)
  | tup (p : Nat) (args : XL) | lst (p : Nat) (args : XL)
  | dict (p : Nat) (ks : List (Nat × Str)) (args : XL)
  | comp (p : Nat) (sc : Scope) (nm : List Str) (cap : List Nat) (t : T) (it : It) (cond : Cd) (elt : X)
inductive XL where
  | nil | cons (x : X) (xs : XL)
inductive It where
  | val (x : X) | own (p i : Nat) | rng (p q : Nat) (x : X) | enm (p q : Nat) (x : X) | gen (p q : Nat) (id : Str) (x : X)
inductive Cd where
  | none | some (x : X)
end
/-- where a search finds nothing -/
noncomputable def xD : X := .cnone 0

mutual
inductive S where
  | asg (p q i : Nat) (x : X)
  | asgOwn (p q i : Nat) (x : X)
  | asg2 (p q p1 i1 p2 i2 : Nat) (q' : Nat) (a b : X)
  | aug (p q i : Nat) (op : Operator) (x : X)
  | iff (p : Nat) (c : X) (a b : SL)
  | forr (p : Nat) (t : T) (it : It) (body orelse : SL)
  | whil (p : Nat) (c : X) (body : SL)
  | ret (p : Nat) (x : X)
  | retOwn (p q i : Nat)
  | try_ (body : SL) (hs : List ExceptHandler) (p : Nat)
  | assert (p : Nat) (c : X)
  | del (p q q1 i : Nat) (ix : X)
  | app (p q q1 q2 i : Nat) (x : X)
  | raise (st : Stmt)
inductive SL where
  | nil | cons (x : S) (xs : SL)
end
noncomputable def sD : S := .ret 0 xD

noncomputable def ps (p : Nat) : Pos := ⟨p / 1000000000, p / 1000000 % 1000, p / 1000 % 1000, p % 1000⟩

noncomputable def nmAt (nm : List Str) (i : Nat) : Str := nm.getD i Str.empty

mutual
noncomputable def deX (nm : List Str) : X → Expr
  | .var p i => .Name (nmAt nm i) (ps p)
  | .gname p id => .Name id (ps p)
  | .cint p n => .Constant (.int n) 0 (ps p)
  | .neg p q n => .UnaryOp .USub (.Constant (.int n) 0 (ps q)) (ps p)
  | .cstr p s => .Constant (.str s) 0 (ps p)
  | .cbool p b => .Constant (.bool b) 0 (ps p)
  | .cnone p => .Constant .none 0 (ps p)
  | .bin p op a b => .BinOp (deX nm a) op (deX nm b) (ps p)
  | .cmp p op a b => .Compare (deX nm a) [op] [deX nm b] (ps p)
  | .chain p o1 o2 a b c => .Compare (deX nm a) [o1, o2] [deX nm b, deX nm c] (ps p)
  | .boo p op a b => .BoolOp op [deX nm a, deX nm b] (ps p)
  | .iseq p p1 p2 p3 p4 p5 p6 i j => .BoolOp .Or [.Compare (.Name (nmAt nm i) (ps p2)) [.Is] [.Name (nmAt nm j) (ps p3)] (ps p1), .Compare (.Name (nmAt nm i) (ps p5)) [.Eq] [.Name (nmAt nm j) (ps p6)] (ps p4)] (ps p)
  | .not_ p a => .UnaryOp .Not (deX nm a) (ps p)
  | .ite p c a b => .IfExp (deX nm c) (deX nm a) (deX nm b) (ps p)
  | .gcall p q id args => .Call (.Name id (ps q)) (deL nm args) [] (ps p)
  | .bcall p q id args => .Call (.Name id (ps q)) (deL nm args) [] (ps p)
  | .meth p q o name args => .Call (.Attribute (deX nm o) name (ps q)) (deL nm args) [] (ps p)
  | .repl p q o p1 y p2 z => .Call (.Attribute (deX nm o) "replace" (ps q)) [.Constant (.str y) 0 (ps p1), .Constant (.str z) 0 (ps p2)] [] (ps p)
  | .idx p a i => .Subscript (deX nm a) (deX nm i) (ps p)
  | .slc p q a lo hi => .Subscript (deX nm a) (.Slice (some (deX nm lo)) (some (deX nm hi)) none (ps q)) (ps p)
  | .slf p q a lo => .Subscript (deX nm a) (.Slice (some (deX nm lo)) none none (ps q)) (ps p)
  | .tup p args => .Tuple (deL nm args) 0 (ps p)
  | .lst p args => .List (deL nm args) (ps p)
  | .dict p ks args => .Dict (ks.map fun k => some (.Constant (.str k.2) 0 (ps k.1))) (deL nm args) (ps p)
  | .comp p sc nm' cap t it cond elt => .ListComp (deX nm' elt) [⟨deT nm' t, deI nm it, deC nm' cond, 0⟩] sc (ps p)
noncomputable def deL (nm : List Str) : XL → List Expr
  | .nil => []
  | .cons x xs => deX nm x :: deL nm xs
noncomputable def deI (nm : List Str) : It → Expr
  | .val x => deX nm x
  | .own p i => .Name (nmAt nm i) (ps p)
  | .rng p q x => .Call (.Name "range" (ps q)) [deX nm x] [] (ps p)
  | .enm p q x => .Call (.Name "enumerate" (ps q)) [deX nm x] [] (ps p)
  | .gen p q id x => .Call (.Name id (ps q)) [deX nm x] [] (ps p)
noncomputable def deC (nm : List Str) : Cd → List Expr
  | .none => []
  | .some x => [deX nm x]
noncomputable def deT (nm : List Str) : T → Expr
  | .t1 p i => .Name (nmAt nm i) (ps p)
  | .t2 p p1 i1 p2 i2 => .Tuple [.Name (nmAt nm i1) (ps p1), .Name (nmAt nm i2) (ps p2)] 0 (ps p)
end

mutual
noncomputable def deS (nm : List Str) : S → Stmt
  | .asg p q i x => .Assign [.Name (nmAt nm i) (ps q)] (deX nm x) (ps p)
  | .asgOwn p q i x => .Assign [.Name (nmAt nm i) (ps q)] (deX nm x) (ps p)
  | .asg2 p q p1 i1 p2 i2 q' a b => .Assign [.Tuple [.Name (nmAt nm i1) (ps p1), .Name (nmAt nm i2) (ps p2)] 0 (ps q)] (.Tuple [deX nm a, deX nm b] 0 (ps q')) (ps p)
  | .aug p q i op x => .AugAssign (.Name (nmAt nm i) (ps q)) op (deX nm x) (ps p)
  | .iff p c a b => .If (deX nm c) (deSL nm a) (deSL nm b) (ps p)
  | .forr p t it b o => .For (deT nm t) (deI nm it) (deSL nm b) (deSL nm o) (ps p)
  | .whil p c b => .While (deX nm c) (deSL nm b) [] (ps p)
  | .ret p x => .Return (some (deX nm x)) (ps p)
  | .retOwn p q i => .Return (some (.Name (nmAt nm i) (ps q))) (ps p)
  | .try_ b hs p => .Try (deSL nm b) hs [] [] (ps p)
  | .assert p c => .Assert (deX nm c) none (ps p)
  | .del p q q1 i ix => .Delete [.Subscript (.Name (nmAt nm i) (ps q1)) (deX nm ix) (ps q)] (ps p)
  | .app p q q1 q2 i x => .Expr (.Call (.Attribute (.Name (nmAt nm i) (ps q2)) "append" (ps q1)) [deX nm x] [] (ps q)) (ps p)
  | .raise st => st
noncomputable def deSL (nm : List Str) : SL → List Stmt
  | .nil => []
  | .cons x xs => deS nm x :: deSL nm xs
end

noncomputable abbrev Sto := List (Option V)
structure Kx where
  glob : Str → Option V
  F : Str → List V → Option V
  gen : Str → V → Option (List V)
  dic : Addr → List (Str × Str)

noncomputable def Sto.at (σ : Sto) (i : Nat) : Option V := (σ[i]?).join

noncomputable def intsOf : List V → Option (List Int)
  | [] => some []
  | .int i :: vs => (intsOf vs).map (i :: ·)
  | _ :: _ => none
noncomputable def strsOf : List V → Option (List Str)
  | [] => some []
  | .str _ x :: vs => (strsOf vs).map (x :: ·)
  | _ :: _ => none
noncomputable def minI : Int → List Int → Int
  | a, [] => a
  | a, b :: bs => minI (if b < a then b else a) bs
noncomputable def maxI : Int → List Int → Int
  | a, [] => a
  | a, b :: bs => maxI (if a < b then b else a) bs
noncomputable def sumI : Int → List Int → Int
  | a, [] => a
  | a, b :: bs => sumI (a + b) bs

noncomputable def insStr (x : Str) : List Str → List Str
  | [] => [x]
  | y :: ys => if PySem.Spec.ltCps x.cps.toList y.cps.toList then x :: y :: ys else y :: insStr x ys
noncomputable def sortStr (xs : List Str) : List Str := xs.foldl (fun a x => insStr x a) []

noncomputable def allFl (vs : List V) : Bool := vs.all fun | .str n _ => n | _ => false
noncomputable def biV (id : Str) (vs : List V) : Option V :=
  if id == ("len" : Str) then match vs with
    | [.str _ x] => if x.length ≤ lim then some (.int x.length) else none
    | [v] => match seqOf v with | some xs => if xs.length ≤ lim then some (.int xs.length) else none | none => none
    | _ => none
  else if id == ("min" : Str) then match vs with
    | [.int a, .int b] => some (.int (minI a [b]))
    | [.lst xs] => match intsOf xs with | some (a :: as) => some (.int (minI a as)) | _ => none
    | _ => none
  else if id == ("max" : Str) then match vs with
    | [.int a, .int b] => some (.int (maxI a [b]))
    | [.lst xs] => match intsOf xs with | some (a :: as) => some (.int (maxI a as)) | _ => none
    | _ => none
  else if id == ("sum" : Str) then match vs with
    | [.lst xs] => match intsOf xs with | some as => some (.int (sumI 0 as)) | _ => none
    | _ => none
  else if id == ("sorted" : Str) then match vs with
    | [.lst xs] => match strsOf xs with | some as => if as.length < 64 then some (.lst ((sortStr as).map (.str (allFl xs)))) else none | _ => none
    | _ => none
  else none

noncomputable def findS (x y : Str) (i j : Int) : Int := match Builtin.Str.occurrences x y (fromIndex x.length i) (min (fromIndex x.length j) x.length) 1 with | k :: _ => (k : Int) | [] => -1
noncomputable def splitS (x y : Str) : List Str :=
  Builtin.Str.partsBetween x (Builtin.Str.occurrences x y 0 x.length (x.length + 1)) y.length
noncomputable def replS (x y z : Str) : Str :=
  if (Builtin.Str.occurrences x y 0 x.length (x.length + 1)).isEmpty then x
  else Builtin.Str.glued z (Builtin.Str.partsBetween x (Builtin.Str.occurrences x y 0 x.length (x.length + 1)) y.length)

noncomputable def methV (name : Str) (o : V) (vs : List V) : Option V :=
  if name == ("startswith" : Str) then match o, vs with
    | .str _ x, [.str _ y] => some (.bool (Txt.startswith x y))
    | _, _ => none
  else if name == ("endswith" : Str) then match o, vs with
    | .str _ x, [.str _ y] => some (.bool (Txt.endswith x y))
    | _, _ => none
  else if name == ("find" : Str) then match o, vs with
    | .str _ x, [.str _ y, .int i, .int j] => if x.length ≤ lim && smallI i && smallI j then some (.int (findS x y i j)) else none
    | _, _ => none
  else if name == ("split" : Str) then match o, vs with
    | .str _ x, [.str _ y] => if x.length ≤ lim && !(y.length == 0) && !(decide (x.length < y.length) || decide (Builtin.Str.strKind x < Builtin.Str.strKind y)) && !(Builtin.Str.occurrences x y 0 x.length (x.length + 1)).isEmpty then some (.lst ((splitS x y).map (.str false))) else none
    | _, _ => none
  else if name == ("join" : Str) then match o, vs with
    | .str _ x, [v] => match seqOf v with
      | some xs => match strsOf xs with
        | some ys => if (ys.map (·.length)).sum + ys.length * x.length ≤ lim then some (.str false (Txt.join x ys)) else none
        | none => none
      | none => none
    | _, _ => none
  else if name == ("index" : Str) then match o, vs with
    | .lst xs, [v] => if xs.length ≤ lim && (inL xs v).isSome then (match idxL xs v with | some j => some (.int (j : Nat)) | none => none) else none
    | _, _ => none
  else none

noncomputable def freeze : V → V
  | .olst vs => .lst vs
  | v => v
noncomputable def scal : V → Bool
  | .none | .bool _ | .int _ | .str _ _ => true
  | _ => false
noncomputable def argsFine : List V → Bool
  | [] => true
  | v :: vs => (match v with | .olst ws => plains ws | v => v.plain) && argsFine vs
noncomputable def anyOwn (vs : List V) : Bool := vs.any fun | .olst _ => true | _ => false

noncomputable def putT (n : Nat) : T → V → Sto → Option Sto
  | .t1 _ i, v, σ => if i < n && v.plain then some (σ.set i (some v)) else none
  | .t2 _ _ i _ j, v, σ => match v with
    | .tup [a, b] => if i < n && j < n && a.plain && b.plain then some ((σ.set i (some a)).set j (some b)) else none
    | _ => none

noncomputable def enumV (f : V) : Option (List V) := match f with
  | .str _ x => some (x.cps.toList.zipIdx.map fun c => .tup [.int c.2, .str false ⟨#[c.1]⟩])
  | .lst xs => if plains xs then some (xs.zipIdx.map fun c => .tup [.int c.2, c.1]) else none
  | .tup xs => if plains xs then some (xs.zipIdx.map fun c => .tup [.int c.2, c.1]) else none
  | _ => none
noncomputable def iterV : V → Option (List V)
  | .str _ x => some (x.cps.toList.map fun c => .str false ⟨#[c]⟩)
  | .lst xs => if plains xs then some xs else none
  | .tup xs => if plains xs then some xs else none
  | _ => none

noncomputable def caps (σ : Sto) : List Nat → Option Sto
  | [] => some []
  | i :: is => match σ.at i, caps σ is with
    | some v, some vs => if v.plain then some (some v :: vs) else none
    | _, _ => none
noncomputable def nT : T → Nat | .t1 .. => 1 | .t2 .. => 2

noncomputable def compL (put : V → Sto → Option Sto) (cond : Sto → Option Bool) (elt : Sto → Option V) : List V → Sto → Option (List V)
  | [], _ => some []
  | v :: vs, σ => match put v σ with
    | none => none
    | some σ' => match cond σ' with
      | none => none
      | some false => compL put cond elt vs σ'
      | some true => match elt σ' with
        | none => none
        | some y => if y.plain then (compL put cond elt vs σ').map (y :: ·) else none

noncomputable def chk (b : Bool) (o : Option V) : Option V := if b then o else none

noncomputable def subK (K : Kx) (x y : V) : Option V := match x, y with
  | .fn a, .str _ k => ((K.dic a).lookup k).map (V.str false)
  | x, y => subV x y
noncomputable def tm (m : Bool) (o : Option V) : Option V := if m then o.bind fun v => (truthV v).map V.bool else o
noncomputable def unB : Option V → Option Bool
  | some (.bool b) => some b
  | _ => none

mutual
/-- a value, or its truth -/
noncomputable def ev (K : Kx) : X → Bool → Sto → Option V
  | .var _ i, m, σ => tm m (σ.at i)
  | .gname _ id, m, _ => tm m (K.glob id)
  | .cint _ n, m, _ => tm m (some (.int n))
  | .neg _ _ n, m, _ => tm m (some (.int (-n)))
  | .cstr _ s, m, _ => tm m (some (.str true s))
  | .cbool _ b, m, _ => tm m (some (.bool b))
  | .cnone _, m, _ => tm m (some .none)
  | .bin _ op a b, m, σ => tm m ((ev K a false σ).bind fun x => (ev K b false σ).bind fun y => binV op x y)
  | .cmp _ op a b, _, σ => (ev K a false σ).bind fun x => (ev K b false σ).bind fun y => (cmpV op x y).map V.bool
  | .chain _ o1 o2 a b c, _, σ => (ev K a false σ).bind fun x => (ev K b false σ).bind fun y => (cmpV o1 x y).bind fun r => if r then (ev K c false σ).bind fun z => (cmpV o2 y z).map V.bool else some (.bool false)
  | .boo _ op a b, m, σ => (unB (ev K a m σ)).bind fun r => match op, r with
    | .And, false => some (.bool false)
    | .Or, true => some (.bool true)
    | _, _ => (unB (ev K b m σ)).map V.bool
  | .iseq _ _ _ _ _ _ _ i j, m, σ => if !m then none else match σ.at i, σ.at j with
    | some (.str true x), some (.str true y) => some (.bool (x == y))
    | _, _ => none
  | .not_ _ a, m, σ => (if m then unB (ev K a true σ) else (ev K a false σ).bind truthV).map fun b => V.bool (!b)
  | .ite _ c a b, m, σ => if m then none else (unB (ev K c true σ)).bind fun r => if r then ev K a false σ else ev K b false σ
  | .gcall _ _ id args, m, σ => tm m ((evL K args σ).bind fun vs => if argsFine vs then (K.F id (vs.map freeze)).bind fun v => if v.plain && (!anyOwn vs || scal v) then some v else none else none)
  | .bcall _ _ id args, m, σ => tm m ((evL K args σ).bind fun vs => biV id vs)
  | .meth _ _ o name args, m, σ => tm m ((ev K o false σ).bind fun x => (evL K args σ).bind fun vs => methV name x vs)
  | .repl _ _ o _ y _ z, m, σ => tm m ((ev K o false σ).bind fun x => match x with
    | .str n x => if !(y == z) && !(y.length == 0) && decide (z.length ≤ 1000) && decide (x.length ≤ 1000) then some (.str (n || !(Builtin.Str.occurrences x y 0 x.length (x.length + 1)).isEmpty) (replS x y z)) else none
    | _ => none)
  | .idx _ a i, m, σ => tm m ((ev K a false σ).bind fun x => (ev K i false σ).bind fun y => subK K x y)
  | .slc _ _ a lo hi, m, σ => tm m ((ev K a false σ).bind fun x => (ev K lo false σ).bind fun l => (ev K hi false σ).bind fun h => match l, h with
    | .int l, .int h => sliceV x (some l) (some h)
    | _, _ => none)
  | .slf _ _ a lo, m, σ => tm m ((ev K a false σ).bind fun x => (ev K lo false σ).bind fun l => match l with
    | .int l => sliceV x (some l) none
    | _ => none)
  | .tup _ args, m, σ => tm m ((evL K args σ).bind fun vs => if plains vs && decide (vs.length ≤ lim) then some (.tup vs) else none)
  | .lst _ args, m, σ => tm m ((evL K args σ).bind fun vs => if plains vs && decide (vs.length ≤ lim) then some (.lst vs) else none)
  | .dict _ ks args, m, σ => none
  | .comp _ sc nm cap t it cond elt, m, σ => tm m ((evI K it σ).bind fun vs => (caps σ cap).bind fun cs => if lim < vs.length then none else
      (compL (putT (nT t) t) (evC K cond) (ev K elt false) vs (List.replicate (nT t) none ++ cs)).map V.lst)
noncomputable def evL (K : Kx) : XL → Sto → Option (List V)
  | .nil, _ => some []
  | .cons x xs, σ => (ev K x false σ).bind fun v => (evL K xs σ).map (v :: ·)
noncomputable def evI (K : Kx) : It → Sto → Option (List V)
  | .val x, σ => (ev K x false σ).bind iterV
  | .own _ i, σ => none
  | .rng _ _ x, σ => (ev K x false σ).bind fun v => match v with | .int n => if smallI n then some ((List.range n.toNat).map fun i : Nat => V.int i) else none | _ => none
  | .enm _ _ x, σ => (ev K x false σ).bind enumV
  | .gen _ _ id x, σ => none
noncomputable def evC (K : Kx) : Cd → Sto → Option Bool
  | .none, _ => some true
  | .some x, σ => unB (ev K x true σ)
end
noncomputable def evT (K : Kx) (x : X) (σ : Sto) : Option Bool := unB (ev K x true σ)

inductive Fl where
  | next | brk | cont | ret (v : V)

/-- a loop over given values -/
noncomputable def forL (put : V → Sto → Option Sto) (body : Sto → Option (Fl × Sto)) (els : Sto → Option (Fl × Sto)) : List V → Sto → Option (Fl × Sto)
  | [], σ => els σ
  | v :: vs, σ => (put v σ).bind fun σ' => (body σ').bind fun r => match r with
    | (.next, σ'') => forL put body els vs σ''
    | (.cont, σ'') => forL put body els vs σ''
    | (.brk, σ'') => some (.next, σ'')
    | (.ret v, σ'') => some (.ret v, σ'')
/-- a loop over an owned list -/
noncomputable def whileL (test : Sto → Option Bool) (body : Sto → Option (Fl × Sto)) : Nat → Sto → Option (Fl × Sto)
  | 0, _ => none
  | n + 1, σ => (test σ).bind fun b => if b then (body σ).bind fun r => match r with
    | (.next, σ'') => whileL test body n σ''
    | (.cont, σ'') => whileL test body n σ''
    | (.brk, σ'') => some (.next, σ'')
    | (.ret v, σ'') => some (.ret v, σ'')
    else some (.next, σ)
noncomputable def noOwn (σ : Sto) : Bool := σ.all fun | some (.olst _) => false | _ => true
/-- a value may be stored there: no owned list is lost or doubled -/
noncomputable def putV (i : Nat) (v : V) (σ : Sto) : Option Sto := if i < σ.length && v.plain then some (σ.set i (some v)) else none
noncomputable def putOwn (i : Nat) (v : V) (σ : Sto) : Option Sto := match v with
  | .lst vs => if i < σ.length && plains vs && noOwn σ then some (σ.set i (some (.olst vs))) else none
  | _ => none
noncomputable def ownAt (σ : Sto) (i : Nat) : Option (List V) := match σ.at i with | some (.olst vs) => some vs | _ => none
noncomputable def delAt (vs : List V) (i : Int) : Option (List V) :=
  if i == 0 then (match vs with | [] => none | _ :: t => some t) else if i == -1 then (match vs with | [] => none | _ => some vs.dropLast) else none

noncomputable def augV : Operator → V → V → Option V
  | .Add, .int a, .int b => some (.int (a + b))
  | .Sub, .int a, .int b => some (.int (a - b))
  | .Add, .str n x, .str k y => if x.length + y.length ≤ lim then some (.str (n && k) (x ++ y)) else none
  | _, _, _ => none
mutual
noncomputable def exS (K : Kx) : S → Sto → Option (Fl × Sto)
  | .asg _ _ i x, σ => (ev K x false σ).bind fun v => (putV i v σ).map fun σ => (.next, σ)
  | .asgOwn _ _ i x, σ => (ev K x false σ).bind fun v => (putOwn i v σ).map fun σ => (.next, σ)
  | .asg2 _ _ _ i _ j _ a b, σ => (ev K a false σ).bind fun v => (ev K b false σ).bind fun u => (putV i v σ).bind fun σ => (putV j u σ).map fun σ => (.next, σ)
  | .aug _ _ i op x, σ => (σ.at i).bind fun v => (ev K x false σ).bind fun u => (augV op v u).bind fun r => (putV i r σ).map fun σ => (.next, σ)
  | .iff _ c a b, σ => (evT K c σ).bind fun r => if r then exL K a σ else exL K b σ
  | .forr _ t it body els, σ => match it with
    | .own _ i => (ownAt σ i).bind fun vs => forL (putT σ.length t) (exL K body) (exL K els) vs (σ.set i (some (.lst vs)))
    | .gen _ _ id x => (ev K x false σ).bind fun v => (K.gen id v).bind fun vs => forL (putT σ.length t) (exL K body) (exL K els) vs σ
    | it => (evI K it σ).bind fun vs => forL (putT σ.length t) (exL K body) (exL K els) vs σ
  | .whil _ c body, σ => whileL (evT K c) (exL K body) 10 σ
  | .ret _ x, σ => (ev K x false σ).bind fun v => if v.plain then some (.ret v, σ) else none
  | .retOwn _ _ i, σ => (ownAt σ i).map fun vs => (.ret (.lst vs), σ)
  | .try_ b _ _, σ => exL K b σ
  | .assert _ c, σ => (evT K c σ).bind fun r => if r then some (.next, σ) else none
  | .del _ _ _ i ix, σ => (ownAt σ i).bind fun vs => if lim < vs.length then none else (ev K ix false σ).bind fun k => match k with
    | .int k => (delAt vs k).map fun ws => (.next, σ.set i (some (.olst ws)))
    | _ => none
  | .app _ _ _ _ i x, σ => (ownAt σ i).bind fun vs => (ev K x false σ).bind fun v => if v.plain && decide (vs.length ≤ lim) then some (.next, σ.set i (some (.olst (vs ++ [v])))) else none
  | .raise _, _ => none
noncomputable def exL (K : Kx) : SL → Sto → Option (Fl × Sto)
  | .nil, σ => some (.next, σ)
  | .cons x xs, σ => (exS K x σ).bind fun r => match r with
    | (.next, σ') => exL K xs σ'
    | r => some r
end

end Mine

namespace Mine
open PySem PySem.W PySem.Calls PyProof.Rows

/-! one step of the evaluator, each by itself -/
section
variable {K : Kx} {σ : Sto} {p q : Nat} {a b c i o : X} {op o1 o2 : CmpOp} {bop : BoolOp} {m : Bool} {args : XL} {id name : Str}
theorem evE_var {i : Nat} : ev K (.var p i) false σ = σ.at i := rfl
theorem evE_bin {op : Operator} : ev K (.bin p op a b) false σ = (ev K a false σ).bind fun x => (ev K b false σ).bind fun y => binV op x y := rfl
theorem evE_cmp : ev K (.cmp p op a b) m σ = (ev K a false σ).bind fun x => (ev K b false σ).bind fun y => (cmpV op x y).map V.bool := rfl
theorem evE_chain : ev K (.chain p o1 o2 a b c) m σ = (ev K a false σ).bind fun x => (ev K b false σ).bind fun y => (cmpV o1 x y).bind fun r => if r then (ev K c false σ).bind fun z => (cmpV o2 y z).map V.bool else some (.bool false) := rfl
theorem evE_boo : ev K (.boo p bop a b) m σ = (unB (ev K a m σ)).bind fun r => match bop, r with
    | .And, false => some (.bool false)
    | .Or, true => some (.bool true)
    | _, _ => (unB (ev K b m σ)).map V.bool := rfl
theorem evE_not_ : ev K (.not_ p a) true σ = (unB (ev K a true σ)).map fun b => V.bool (!b) := rfl
theorem evE_ite : ev K (.ite p c a b) false σ = (unB (ev K c true σ)).bind fun r => if r then ev K a false σ else ev K b false σ := rfl
theorem evE_gcall : ev K (.gcall p q id args) m σ = tm m ((evL K args σ).bind fun vs => if argsFine vs then (K.F id (vs.map freeze)).bind fun v => if v.plain && (!anyOwn vs || scal v) then some v else none else none) := rfl
theorem evE_bcall : ev K (.bcall p q id args) false σ = (evL K args σ).bind fun vs => biV id vs := rfl
theorem evE_meth : ev K (.meth p q o name args) false σ = (ev K o false σ).bind fun x => (evL K args σ).bind fun vs => methV name x vs := rfl
theorem evE_idx : ev K (.idx p a i) false σ = (ev K a false σ).bind fun x => (ev K i false σ).bind fun y => subK K x y := rfl
theorem evE_slc {lo hi : X} : ev K (.slc p q a lo hi) false σ = (ev K a false σ).bind fun x => (ev K lo false σ).bind fun l => (ev K hi false σ).bind fun h => match l, h with
    | .int l, .int h => sliceV x (some l) (some h)
    | _, _ => none := rfl
theorem evE_tup : ev K (.tup p args) false σ = (evL K args σ).bind fun vs => if plains vs && decide (vs.length ≤ lim) then some (.tup vs) else none := rfl
theorem evE_comp {sc : Scope} {nm : List Str} {cap : List Nat} {t : T} {it : It} {cond : Cd} {elt : X} : ev K (.comp p sc nm cap t it cond elt) false σ = (evI K it σ).bind fun vs => (caps σ cap).bind fun cs => if lim < vs.length then none else
      (compL (putT (nT t) t) (evC K cond) (ev K elt false) vs (List.replicate (nT t) none ++ cs)).map V.lst := rfl
theorem evL_cons {x : X} {xs : XL} : evL K (.cons x xs) σ = (ev K x false σ).bind fun v => (evL K xs σ).map (v :: ·) := rfl
theorem evL_nil : evL K .nil σ = some [] := rfl
theorem evC_some {x : X} : evC K (.some x) σ = unB (ev K x true σ) := rfl
theorem evT_eq {x : X} : evT K x σ = unB (ev K x true σ) := rfl
end
section
variable {K : Kx} {σ : Sto} {p q i : Nat} {x : X}
theorem exS_asg {K : Kx} {p q i : Nat} {x : X} {σ : Sto} : exS K (.asg p q i x) σ = (ev K x false σ).bind fun v => (putV i v σ).map fun σ => (.next, σ) := rfl
theorem exS_asgOwn : exS K (.asgOwn p q i x) σ = (ev K x false σ).bind fun v => (putOwn i v σ).map fun σ => (.next, σ) := rfl
theorem exS_asg2 {p1 p2 j q' : Nat} {a b : X} : exS K (.asg2 p q p1 i p2 j q' a b) σ = (ev K a false σ).bind fun v => (ev K b false σ).bind fun u => (putV i v σ).bind fun σ => (putV j u σ).map fun σ => (.next, σ) := rfl
theorem exS_aug {op : Operator} : exS K (.aug p q i op x) σ = (σ.at i).bind fun v => (ev K x false σ).bind fun u => (augV op v u).bind fun r => (putV i r σ).map fun σ => (.next, σ) := rfl
theorem exS_iff {c : X} {a b : SL} : exS K (.iff p c a b) σ = (evT K c σ).bind fun r => if r then exL K a σ else exL K b σ := rfl
theorem exS_forOwn {t : T} {b o : SL} : exS K (.forr p t (.own q i) b o) σ = (ownAt σ i).bind fun vs => forL (putT σ.length t) (exL K b) (exL K o) vs (σ.set i (some (.lst vs))) := rfl
theorem exS_forGen {t : T} {r : Nat} {id : Str} {b o : SL} : exS K (.forr p t (.gen q r id x) b o) σ = (ev K x false σ).bind fun v => (K.gen id v).bind fun vs => forL (putT σ.length t) (exL K b) (exL K o) vs σ := rfl
theorem exS_forVal {t : T} {b o : SL} : exS K (.forr p t (.val x) b o) σ = (evI K (.val x) σ).bind fun vs => forL (putT σ.length t) (exL K b) (exL K o) vs σ := rfl
theorem exS_forRng {t : T} {r : Nat} {b o : SL} : exS K (.forr p t (.rng q r x) b o) σ = (evI K (.rng q r x) σ).bind fun vs => forL (putT σ.length t) (exL K b) (exL K o) vs σ := rfl
theorem exS_forEnm {t : T} {r : Nat} {b o : SL} : exS K (.forr p t (.enm q r x) b o) σ = (evI K (.enm q r x) σ).bind fun vs => forL (putT σ.length t) (exL K b) (exL K o) vs σ := rfl
theorem exS_whil {c : X} {b : SL} : exS K (.whil p c b) σ = whileL (evT K c) (exL K b) 10 σ := rfl
theorem exS_ret : exS K (.ret p x) σ = (ev K x false σ).bind fun v => if v.plain then some (.ret v, σ) else none := rfl
theorem exS_assert {c : X} : exS K (.assert p c) σ = (evT K c σ).bind fun r => if r then some (.next, σ) else none := rfl
theorem exS_del {q1 : Nat} {ix : X} : exS K (.del p q q1 i ix) σ = (ownAt σ i).bind fun vs => if lim < vs.length then none else (ev K ix false σ).bind fun k => match k with
    | .int k => (delAt vs k).map fun ws => (.next, σ.set i (some (.olst ws)))
    | _ => none := rfl
theorem exS_app {q1 q2 : Nat} : exS K (.app p q q1 q2 i x) σ = (ownAt σ i).bind fun vs => (ev K x false σ).bind fun v => if v.plain && decide (vs.length ≤ lim) then some (.next, σ.set i (some (.olst (vs ++ [v])))) else none := rfl
theorem exL_cons {s : S} {xs : SL} : exL K (.cons s xs) σ = (exS K s σ).bind fun r => match r with
    | (.next, σ') => exL K xs σ'
    | r => some r := rfl
end
end Mine

namespace Mine
open PySem PySem.W PySem.Calls PyProof.Rows PySem.Spec

variable {prog : Program} {w : World} {A : Around} {M : Gh} {s : Shared}

theorem intsOf_ok {h : Heap} : ∀ {vs : List V} {xs : List Value} {ns : List Int}, intsOf vs = some ns → VRs M h vs xs → ∃ ps : List (Int × Tok), xs = ps.map (fun p => Value.int p.1 p.2) ∧ ps.map (·.1) = ns
  | [], _, ns, e, r => by rw [show _ = [] from r]; cases e; exact ⟨[], rfl, rfl⟩
  | v :: vs, _, ns, e, ⟨y, ys, hx, r, rs⟩ => by
    unfold intsOf at e
    split at e
    · rename_i h1; cases h1
    · rename_i h1; cases h1
      obtain ⟨ns', e', rfl⟩ := Option.map_eq_some_iff.mp e
      obtain ⟨t, rfl⟩ := r
      obtain ⟨ps, rfl, rfl⟩ := intsOf_ok e' rs
      exact ⟨(_, t) :: ps, by rw [hx]; rfl, rfl⟩
    · cases e
theorem strsOf_ok {h : Heap} : ∀ {vs : List V} {xs : List Value} {ns : List Str}, strsOf vs = some ns → VRs M h vs xs → ∃ ps : List (Str × Tok), xs = ps.map (fun p => Value.str p.1 p.2) ∧ ps.map (·.1) = ns
  | [], _, ns, e, r => by rw [show _ = [] from r]; cases e; exact ⟨[], rfl, rfl⟩
  | v :: vs, _, ns, e, ⟨y, ys, hx, r, rs⟩ => by
    unfold strsOf at e
    split at e
    · rename_i h1; cases h1
    · rename_i h1; cases h1
      obtain ⟨ns', e', rfl⟩ := Option.map_eq_some_iff.mp e
      obtain ⟨t, rfl, _⟩ := r
      obtain ⟨ps, rfl, rfl⟩ := strsOf_ok e' rs
      exact ⟨(_, t) :: ps, by rw [hx]; rfl, rfl⟩
    · cases e

theorem minI_spec : ∀ (as : List Int) (a : Int), (minI a as = a ∨ minI a as ∈ as) ∧ minI a as ≤ a ∧ ∀ b, b ∈ as → minI a as ≤ b
  | [], a => ⟨Or.inl rfl, Int.le_refl _, fun _ h => absurd h List.not_mem_nil⟩
  | b :: bs, a => by
    unfold minI
    obtain ⟨h1, h2, h3⟩ := minI_spec bs (if b < a then b else a)
    refine ⟨?_, ?_, fun c hc => ?_⟩
    · rcases h1 with h1 | h1
      · rw [h1]; split
        · exact Or.inr (List.mem_cons_self ..)
        · exact Or.inl rfl
      · exact Or.inr (List.mem_cons_of_mem _ h1)
    · split at h2 <;> rename_i hb <;> simp only [hb, if_true, if_false] <;> lia
    · rcases List.mem_cons.mp hc with rfl | hc
      · split at h2 <;> rename_i hb <;> simp only [hb, if_true, if_false] <;> lia
      · exact h3 c hc
theorem maxI_spec : ∀ (as : List Int) (a : Int), (maxI a as = a ∨ maxI a as ∈ as) ∧ a ≤ maxI a as ∧ ∀ b, b ∈ as → b ≤ maxI a as
  | [], a => ⟨Or.inl rfl, Int.le_refl _, fun _ h => absurd h List.not_mem_nil⟩
  | b :: bs, a => by
    unfold maxI
    obtain ⟨h1, h2, h3⟩ := maxI_spec bs (if a < b then b else a)
    refine ⟨?_, ?_, fun c hc => ?_⟩
    · rcases h1 with h1 | h1
      · rw [h1]; split
        · exact Or.inr (List.mem_cons_self ..)
        · exact Or.inl rfl
      · exact Or.inr (List.mem_cons_of_mem _ h1)
    · split at h2 <;> rename_i hb <;> simp only [hb, if_true, if_false] <;> lia
    · rcases List.mem_cons.mp hc with rfl | hc
      · split at h2 <;> rename_i hb <;> simp only [hb, if_true, if_false] <;> lia
      · exact h3 c hc

theorem numAt_list (ps : List (Int × Tok)) (j : Nat) : numAt ps.toArray j = (ps.map (·.1)).getD j 0 := by
  rw [numAt_eq]
theorem intItems_list (ps : List (Int × Tok)) : (ps.map fun p => Value.int p.1 p.2).toArray = intItems ps.toArray := by
  unfold intItems; simp

noncomputable abbrev CallAt (prog : Program) (w : World) (A : Around) (M : Gh) (id : String) (xs : List Value) (v : V) (s : Shared) : Prop := EvAt0 prog w A M (call (.builtin id) xs) v s

theorem list_of {h : Heap} {v : V} {vs : List V} {x : Value} (e : seqOf v = some vs) (r : VR M h v x) : ∃ a xs, x = .ref a ∧ h.PlainList a xs.toArray ∧ VRs M h vs xs := by
  obtain ⟨a, items, rfl, l, r⟩ := r.list e
  exact ⟨a, items.toList, rfl, by simpa using l, r⟩

theorem min_list_ev {v : V} {vs : List V} {x : Value} {a : Int} {as : List Int} (hh : A.handled = none) (ev : seqOf v = some vs) (e : intsOf vs = some (a :: as)) (r : VR M s.heap v x) : CallAt prog w A M "min" [x] (.int (minI a as)) s := by
  obtain ⟨l, xs, rfl, hl, rs⟩ := list_of ev r
  obtain ⟨ps, rfl, hp⟩ := intsOf_ok e rs
  rw [intItems_list] at hl
  have hn : ps.length = as.length + 1 := by have := congrArg List.length hp; simpa using this
  intro Q E h
  refine wpAny_with_toks (Nat.le_refl s.toks) (min_intList hh hl.isList (by simp; lia) fun v h' tk hv hk ht => ?_)
  obtain ⟨t, rfl⟩ := intItems_at hv
  refine h _ _ (AdvE.of hk ht) ⟨t, ?_⟩
  obtain ⟨h1, h2⟩ := argBest_lt (numAt ps.toArray) (ps.toArray.size - 1)
  obtain ⟨k1, k2, k3⟩ := minI_spec as a
  generalize argBest (fun i j => decide (numAt ps.toArray i < numAt ps.toArray j)) (ps.toArray.size - 1) = k at h1 h2 ⊢
  rw [List.size_toArray] at h1 h2
  have hm : numAt ps.toArray k ∈ a :: as := by
    rw [numAt_list, hp]; exact getD_mem (by rw [List.length_cons]; lia)
  have hall : ∀ b, b ∈ a :: as → numAt ps.toArray k ≤ b := fun b hb => by
    obtain ⟨j, hj, rfl⟩ := mem_getD hb
    have := h2 j (by rw [List.length_cons] at hj; lia)
    rwa [numAt_list ps j, hp] at this
  have e1 : numAt ps.toArray k ≤ minI a as := by
    rcases k1 with k1 | k1
    · rw [k1]; exact hall a (List.mem_cons_self ..)
    · exact hall _ (List.mem_cons_of_mem _ k1)
  have e2 : minI a as ≤ numAt ps.toArray k := by
    rcases List.mem_cons.mp hm with e | hm
    · rw [e]; exact k2
    · exact k3 _ hm
  rw [Int.le_antisymm e1 e2]
theorem max_list_ev {v : V} {vs : List V} {x : Value} {a : Int} {as : List Int} (hh : A.handled = none) (ev : seqOf v = some vs) (e : intsOf vs = some (a :: as)) (r : VR M s.heap v x) : CallAt prog w A M "max" [x] (.int (maxI a as)) s := by
  obtain ⟨l, xs, rfl, hl, rs⟩ := list_of ev r
  obtain ⟨ps, rfl, hp⟩ := intsOf_ok e rs
  rw [intItems_list] at hl
  have hn : ps.length = as.length + 1 := by have := congrArg List.length hp; simpa using this
  intro Q E h
  refine wpAny_with_toks (Nat.le_refl s.toks) (max_intList hh hl.isList (by simp; lia) fun v h' tk hv hk ht => ?_)
  obtain ⟨t, rfl⟩ := intItems_at hv
  refine h _ _ (AdvE.of hk ht) ⟨t, ?_⟩
  obtain ⟨h1, h2⟩ := argBest_gt (numAt ps.toArray) (ps.toArray.size - 1)
  obtain ⟨k1, k2, k3⟩ := maxI_spec as a
  generalize argBest (fun i j => decide (numAt ps.toArray i > numAt ps.toArray j)) (ps.toArray.size - 1) = k at h1 h2 ⊢
  rw [List.size_toArray] at h1 h2
  have hm : numAt ps.toArray k ∈ a :: as := by
    rw [numAt_list, hp]; exact getD_mem (by rw [List.length_cons]; lia)
  have hall : ∀ b, b ∈ a :: as → b ≤ numAt ps.toArray k := fun b hb => by
    obtain ⟨j, hj, rfl⟩ := mem_getD hb
    have := h2 j (by rw [List.length_cons] at hj; lia)
    rwa [numAt_list ps j, hp] at this
  have e1 : maxI a as ≤ numAt ps.toArray k := by
    rcases k1 with k1 | k1
    · rw [k1]; exact hall a (List.mem_cons_self ..)
    · exact hall _ (List.mem_cons_of_mem _ k1)
  have e2 : numAt ps.toArray k ≤ maxI a as := by
    rcases List.mem_cons.mp hm with e | hm
    · rw [e]; exact k2
    · exact k3 _ hm
  rw [Int.le_antisymm e1 e2]

theorem sumI_eq : ∀ (as : List Int) (a : Int), sumI a as = a + as.sum
  | [], a => by simp [sumI]
  | b :: bs, a => by unfold sumI; rw [sumI_eq bs, List.sum_cons]; lia
theorem sum_list_ev {v : V} {vs : List V} {x : Value} {as : List Int} (hh : A.handled = none) (ev : seqOf v = some vs) (e : intsOf vs = some as) (r : VR M s.heap v x) : CallAt prog w A M "sum" [x] (.int (sumI 0 as)) s := by
  obtain ⟨l, xs, rfl, hl, rs⟩ := list_of ev r
  obtain ⟨ps, rfl, hp⟩ := intsOf_ok e rs
  rw [intItems_list] at hl
  intro Q E h
  refine wpAny_with_toks (Nat.le_refl s.toks) (call_sum_walkG (iter_intList hl.isList fun s₂ e st hfp hlI => ?_))
  subst e
  refine ⟨_, _, _, _, _, _, numAt ps.toArray, rfl, Walks.list (A := A.in1) hh _ l hlI (intItems ps.toArray), st, hfp, (fun _ _ => intItems_at), fun h' tk t' hk ht => ?_⟩
  refine h _ _ (AdvE.of (old_kept hk) ht) ⟨t', ?_⟩
  rw [preSum_eq, sumI_eq, List.take_of_length_le (by simp [intItems])]
  simp [hp]

theorem len_list_ev {v : V} {vs : List V} {x : Value} (ev : seqOf v = some vs) (hl : vs.length ≤ lim) (r : VR M s.heap v x) : CallAt prog w A M "len" [x] (.int vs.length) s := by
  obtain ⟨l, items, rfl, hp, rs⟩ := r.list ev
  have hz := VRs.size rs
  intro Q E h
  refine call_len_list hp.isList (by rw [hz]; unfold lim at hl; lia) ?_
  rw [hz]; exact h _ _ (AdvE.tok (by lia)) ⟨_, rfl⟩

/-! sorted -/
noncomputable abbrev leS (a b : Str) : Prop := ltCps b.cps.toList a.cps.toList = false
theorem leS_trans {a b c : Str} (h1 : leS a b) (h2 : leS b c) : leS a c := by
  unfold leS at *
  rw [ltCps_eq] at *
  simp only [decide_eq_false_iff_not] at *
  exact List.not_lt.mpr (List.le_trans (List.not_lt.mp h1) (List.not_lt.mp h2))
theorem leS_anti {a b : Str} (h1 : leS a b) (h2 : leS b a) : a = b := by
  unfold leS at *
  rw [ltCps_eq] at *
  simp only [decide_eq_false_iff_not] at *
  have e := List.le_antisymm (List.not_lt.mp h1) (List.not_lt.mp h2)
  obtain ⟨⟨a⟩⟩ := a; obtain ⟨⟨b⟩⟩ := b
  simp at e; subst e; rfl
theorem leS_lt {a b : Str} (h : ltCps a.cps.toList b.cps.toList = true) : leS a b := by
  unfold leS
  rw [ltCps_eq] at *
  simp only [decide_eq_false_iff_not, decide_eq_true_eq] at *
  exact List.not_lt.mpr (List.le_of_lt h)
theorem insStr_perm (x : Str) : ∀ l : List Str, (insStr x l).Perm (x :: l)
  | [] => List.Perm.refl _
  | y :: ys => by
    unfold insStr
    split
    · exact List.Perm.refl _
    · exact ((insStr_perm x ys).cons y).trans (List.Perm.swap ..)
theorem insStr_pw (x : Str) : ∀ l : List Str, l.Pairwise leS → (insStr x l).Pairwise leS
  | [], _ => List.pairwise_singleton ..
  | y :: ys, h => by
    obtain ⟨h1, h2⟩ := List.pairwise_cons.mp h
    unfold insStr
    split
    · rename_i hl
      refine List.pairwise_cons.mpr ⟨fun z hz => ?_, h⟩
      rcases List.mem_cons.mp hz with rfl | hz
      · exact leS_lt hl
      · exact leS_trans (leS_lt hl) (h1 z hz)
    · rename_i hl
      refine List.pairwise_cons.mpr ⟨fun z hz => ?_, insStr_pw x ys h2⟩
      rcases List.mem_cons.mp ((insStr_perm x ys).mem_iff.mp hz) with rfl | hz
      · exact Bool.eq_false_iff.mpr hl
      · exact h1 z hz
theorem sortStr_go : ∀ (xs acc : List Str), acc.Pairwise leS → (xs.foldl (fun a x => insStr x a) acc).Pairwise leS ∧ (xs.foldl (fun a x => insStr x a) acc).Perm (xs ++ acc)
  | [], acc, h => ⟨h, List.Perm.refl _⟩
  | x :: xs, acc, h => by
    obtain ⟨h1, h2⟩ := sortStr_go xs (insStr x acc) (insStr_pw x acc h)
    refine ⟨h1, h2.trans ?_⟩
    exact (List.Perm.append_left xs (insStr_perm x acc)).trans List.perm_middle
theorem sortedS_pw : ∀ (l : List Str) (p : Str), risingS p l = true → (p :: l).Pairwise leS
  | [], p, _ => List.pairwise_singleton ..
  | x :: r, p, h => by
    have h : (!ltCps x.cps.toList p.cps.toList && risingS x r) = true := h
    simp only [Bool.and_eq_true, Bool.not_eq_true'] at h
    have ih := sortedS_pw r x h.2
    refine List.pairwise_cons.mpr ⟨fun z hz => ?_, ih⟩
    rcases List.mem_cons.mp hz with rfl | hz
    · exact h.1
    · exact leS_trans h.1 ((List.pairwise_cons.mp ih).1 z hz)
theorem sortStr_unique {xs ys : List Str} (hp : ys.Perm xs) (hs : sortedS ys = true) : ys = sortStr xs := by
  obtain ⟨h1, h2⟩ := sortStr_go xs [] List.Pairwise.nil
  rw [List.append_nil] at h2
  have hy : ys.Pairwise leS := by
    cases ys with
    | nil => exact List.Pairwise.nil
    | cons x r => exact sortedS_pw r x hs
  exact List.Perm.eq_of_pairwise (le := leS) (fun a b _ _ => leS_anti) hy h1 (hp.trans h2.symm)

theorem strsAre_list : ∀ ps : List (Str × Tok), StrsAre (ps.map fun p => Value.str p.1 p.2) (ps.map (·.1))
  | [] => .nil
  | p :: ps => .cons _ _ (strsAre_list ps)
theorem strsAre_vr {h : Heap} {n : Bool} : ∀ {xs : List Value} {ss : List Str}, StrsAre xs ss → (n = true → ∀ x, x ∈ xs → ∀ y t, x = .str y t → t ≠ 0 ∧ M.τ t = some y) → VRs M h (ss.map (V.str n)) xs
  | _, _, .nil, _ => rfl
  | _, _, .cons y t r, hn => ⟨_, _, rfl, ⟨t, rfl, fun z => hn z _ (List.mem_cons_self ..) _ _ rfl⟩, strsAre_vr r fun z x hx => hn z x (List.mem_cons_of_mem _ hx)⟩
theorem allFl_ok {h : Heap} : ∀ {vs : List V} {xs : List Value}, allFl vs = true → VRs M h vs xs → ∀ x, x ∈ xs → ∀ y t, x = .str y t → t ≠ 0 ∧ M.τ t = some y
  | [], _, _, r, x, hx, _, _, _ => by rw [show _ = [] from r] at hx; cases hx
  | v :: vs, _, e, ⟨z, zs, rfl, r, rs⟩, x, hx, y, t, ex => by
    unfold allFl at e
    rw [List.all_cons, Bool.and_eq_true] at e
    rcases List.mem_cons.mp hx with rfl | hx
    · cases v <;> simp at e
      obtain ⟨u, hu, hn⟩ := r
      rw [ex] at hu; cases hu
      exact hn e.1
    · exact allFl_ok (vs := vs) e.2 rs x hx y t ex

theorem sorted_ev {v : V} {vs : List V} {x : Value} {as : List Str} (ev : seqOf v = some vs) (e : strsOf vs = some as) (h64 : as.length < 64) (hM : Al M.m s.heap) (r : VR M s.heap v x) : CallAt prog w A M "sorted" [x] (.lst ((sortStr as).map (.str (allFl vs)))) s := by
  obtain ⟨l, xs, rfl, hl, rs⟩ := list_of ev r
  have hfl : allFl vs = true → ∀ x, x ∈ xs → ∀ y t, x = .str y t → t ≠ 0 ∧ M.τ t = some y := fun z => allFl_ok z rs
  obtain ⟨ps, rfl, hp⟩ := strsOf_ok e rs
  have hn : ps.length = as.length := by have := congrArg List.length hp; simpa using this
  intro Q E h
  have hS := strsAre_list ps
  refine sortedK strKind_oneLt hl.isList hS.keysOf (fun v₁ v₂ rest e => keyKind_strs (by rw [← e]; exact hS)) (by simp; lia) fun st' hq hs => ?_
  obtain ⟨ss', h1, h2, h3⟩ := sorted_out_str hS hq hs
  obtain ⟨n, he⟩ := sortedAll_at s.heap (ps.map fun p => Value.str p.1 p.2) ((arrOf st').map (·.2))
  rw [hp] at h2
  rw [← sortStr_unique h2 h3] at h
  refine h _ _ (AdvE.heap fun b o => sortedAll_old) ⟨_, _, rfl, fun z => ?_, ⟨_, he⟩, strsAre_vr h1 fun z x hx => hfl z x ?_⟩
  · obtain ⟨o, ho⟩ := hM _ z
    exact absurd (Heap.lt_size ho) (Nat.not_lt.mpr (Nat.le_succ _))
  · rw [Array.toList_map] at hx
    obtain ⟨p, hpm, rfl⟩ := List.mem_map.mp hx
    have hl2 : (arrOf st').toList.Perm ((ps.map fun p => Value.str p.1 p.2).zip (ps.map fun p => Value.str p.1 p.2)) := by rw [← pairsOf_toList]; exact Array.perm_iff_toList_perm.mp hq
    have := mem_zip_self (hl2.mem_iff.mp hpm)
    rw [← this.1]; exact this.2

end Mine

namespace Mine
open PySem PySem.W PySem.Calls PyProof.Rows PySem.Spec PySem.Builtin.Str

variable {prog : Program} {w : World} {A : Around} {M : Gh} {s : Shared}

noncomputable def biName (id : Str) : String :=
  if id == ("len" : Str) then "len" else if id == ("min" : Str) then "min" else if id == ("max" : Str) then "max" else if id == ("sum" : Str) then "sum" else "sorted"

theorem no_some {α : Type} {v : α} {P : Prop} (e : none = some v) : P := nomatch e
theorem if_some {α : Type} {c : Prop} [d : Decidable c] {a : Option α} {v : α} (e : (if c then a else none) = some v) : c ∧ a = some v := by
  by_cases h : c
  · rw [if_pos h] at e; exact ⟨h, e⟩
  · rw [if_neg h] at e; exact no_some e
theorem opt_lv {o : Option (List V)} {f : List V → Option V} {v : V} (e : (match o with | some x => f x | none => none) = some v) : ∃ x, o = some x ∧ f x = some v := by
  cases o with
  | none => exact no_some e
  | some x => exact ⟨x, rfl, e⟩
theorem opt_li {o : Option (List Int)} {f : List Int → Option V} {v : V} (e : (match o with | some x => f x | _ => none) = some v) : ∃ x, o = some x ∧ f x = some v := by
  cases o with
  | none => exact no_some e
  | some x => exact ⟨x, rfl, e⟩
theorem opt_ls {o : Option (List Str)} {f : List Str → Option V} {v : V} (e : (match o with | some x => f x | _ => none) = some v) : ∃ x, o = some x ∧ f x = some v := by
  cases o with
  | none => exact no_some e
  | some x => exact ⟨x, rfl, e⟩
theorem opt_lt {o : Option (List Str)} {f : List Str → Option V} {v : V} (e : (match o with | some x => f x | none => none) = some v) : ∃ x, o = some x ∧ f x = some v := by
  cases o with
  | none => exact no_some e
  | some x => exact ⟨x, rfl, e⟩
theorem opt_n {o : Option (Nat)} {f : Nat → Option V} {v : V} (e : (match o with | some x => f x | none => none) = some v) : ∃ x, o = some x ∧ f x = some v := by
  cases o with
  | none => exact no_some e
  | some x => exact ⟨x, rfl, e⟩
theorem optc_some {o : Option (List Int)} {f : Int → List Int → Option V} {v : V} (e : (match o with | some (a :: as) => f a as | _ => none) = some v) : ∃ a as, o = some (a :: as) ∧ f a as = some v := by
  cases o with
  | none => exact no_some e
  | some x => cases x with
    | nil => exact no_some e
    | cons a as => exact ⟨a, as, rfl, e⟩
theorem if5 {α : Type} {c1 c2 c3 c4 c5 : Bool} {a1 a2 a3 a4 a5 : Option α} {v : α} {P : Prop} (e : (if c1 = true then a1 else if c2 = true then a2 else if c3 = true then a3 else if c4 = true then a4 else if c5 = true then a5 else none) = some v)
    (h1 : c1 = true → a1 = some v → P) (h2 : c2 = true → a2 = some v → P) (h3 : c3 = true → a3 = some v → P) (h4 : c4 = true → a4 = some v → P) (h5 : c5 = true → a5 = some v → P) : P := by
  cases c1 with
  | true => exact h1 rfl e
  | false => cases c2 with
    | true => exact h2 rfl e
    | false => cases c3 with
      | true => exact h3 rfl e
      | false => cases c4 with
        | true => exact h4 rfl e
        | false => exact (if_some e).elim h5
theorem lst_arg {f : List V → Option V} {vs : List V} {v : V} (e : (match vs with | [.lst xs] => f xs | _ => none) = some v) : ∃ xs, vs = [.lst xs] ∧ f xs = some v := by
  cases vs with
  | nil => exact no_some e
  | cons a vs => cases a with
    | lst xs => cases vs with
      | nil => exact ⟨xs, rfl, e⟩
      | cons => exact no_some e
    | _ => exact no_some e
theorem int_args {f : Int → Int → Option V} {g : List V → Option V} {vs : List V} {v : V} (e : (match vs with | [.int a, .int b] => f a b | [.lst xs] => g xs | _ => none) = some v) : (∃ a b, vs = [.int a, .int b] ∧ f a b = some v) ∨ ∃ xs, vs = [.lst xs] ∧ g xs = some v := by
  cases vs with
  | nil => exact no_some e
  | cons a vs => cases a with
    | lst xs => cases vs with
      | nil => exact .inr ⟨xs, rfl, e⟩
      | cons => exact no_some e
    | int a => cases vs with
      | nil => exact no_some e
      | cons b vs => cases b with
        | int b => cases vs with
          | nil => exact .inl ⟨a, b, rfl, e⟩
          | cons => exact no_some e
        | _ => exact no_some e
    | _ => exact no_some e
theorem len_args {f : Str → Option V} {g : V → Option V} {vs : List V} {v : V} (e : (match vs with | [.str _ x] => f x | [u] => g u | _ => none) = some v) : (∃ n x, vs = [.str n x] ∧ f x = some v) ∨ ∃ u, vs = [u] ∧ g u = some v := by
  cases vs with
  | nil => exact no_some e
  | cons a vs => cases vs with
    | nil => cases a with
      | str n x => exact .inl ⟨n, x, rfl, e⟩
      | _ => exact .inr ⟨_, rfl, e⟩
    | cons => cases a <;> exact no_some e
theorem bn_len : biName "len" = "len" := if_pos (by decide)
theorem bn_min : biName "min" = "min" := (if_neg (by decide)).trans (if_pos (by decide))
theorem bn_max : biName "max" = "max" := (if_neg (by decide)).trans ((if_neg (by decide)).trans (if_pos (by decide)))
theorem bn_sum : biName "sum" = "sum" := (if_neg (by decide)).trans ((if_neg (by decide)).trans ((if_neg (by decide)).trans (if_pos (by decide))))
theorem bn_sorted : biName "sorted" = "sorted" := (if_neg (by decide)).trans ((if_neg (by decide)).trans ((if_neg (by decide)).trans (if_neg (by decide))))

theorem biV_ok {id : Str} {vs : List V} {v : V} {xs : List Value} (hh : A.handled = none) (hM : Al M.m s.heap) (e : biV id vs = some v) (r : VRs M s.heap vs xs) : CallAt prog w A M (biName id) xs v s := by
  refine if5 e (fun hid e => ?_) (fun hid e => ?_) (fun hid e => ?_) (fun hid e => ?_) (fun hid e => ?_) <;> rw [eq_of_beq hid]
  · rw [bn_len]
    rcases len_args e with ⟨n, x, rfl, e1⟩ | ⟨u, rfl, e1⟩
    · obtain ⟨hl, e1⟩ := if_some e1
      cases e1
      obtain ⟨y, ys, rfl, ⟨t, rfl, _⟩, rfl⟩ := r
      exact fun Q E h => P.len_str (by unfold lim at hl; lia) (h _ _ (AdvE.tok (by lia)) ⟨_, rfl⟩)
    · obtain ⟨xs, hs, e1⟩ := opt_lv e1
      obtain ⟨hl, e1⟩ := if_some e1
      cases e1
      obtain ⟨y, ys, rfl, r, rfl⟩ := r
      exact len_list_ev hs hl r
  · rw [bn_min]
    rcases int_args e with ⟨a, b, rfl, e1⟩ | ⟨xs, rfl, e1⟩
    · cases e1
      obtain ⟨y, ys, rfl, ⟨t, rfl⟩, ⟨z, zs, rfl, ⟨u, rfl⟩, rfl⟩⟩ := r
      refine fun Q E h => wpAny_with_toks (Nat.le_refl s.toks) (min_two_ints hh fun h' tk hk ht => ?_)
      unfold minI minI at h
      split
      · rename_i c; rw [if_pos c] at h; exact h _ _ (AdvE.of hk ht) ⟨_, rfl⟩
      · rename_i c; rw [if_neg c] at h; exact h _ _ (AdvE.of hk ht) ⟨_, rfl⟩
    · obtain ⟨a, as, hi, e1⟩ := optc_some e1
      cases e1
      obtain ⟨y, ys, rfl, r, rfl⟩ := r
      exact min_list_ev hh rfl hi r
  · rw [bn_max]
    rcases int_args e with ⟨a, b, rfl, e1⟩ | ⟨xs, rfl, e1⟩
    · cases e1
      obtain ⟨y, ys, rfl, ⟨t, rfl⟩, ⟨z, zs, rfl, ⟨u, rfl⟩, rfl⟩⟩ := r
      refine fun Q E h => wpAny_with_toks (Nat.le_refl s.toks) (max_two_ints hh fun h' tk hk ht => ?_)
      unfold maxI maxI at h
      split
      · rename_i c; rw [if_pos c] at h; exact h _ _ (AdvE.of hk ht) ⟨_, rfl⟩
      · rename_i c; rw [if_neg c] at h; exact h _ _ (AdvE.of hk ht) ⟨_, rfl⟩
    · obtain ⟨a, as, hi, e1⟩ := optc_some e1
      cases e1
      obtain ⟨y, ys, rfl, r, rfl⟩ := r
      exact max_list_ev hh rfl hi r
  · rw [bn_sum]
    obtain ⟨xs, rfl, e1⟩ := lst_arg e
    obtain ⟨as, hi, e1⟩ := opt_li e1
    cases e1
    obtain ⟨y, ys, rfl, r, rfl⟩ := r
    exact sum_list_ev hh rfl hi r
  · rw [bn_sorted]
    obtain ⟨xs, rfl, e1⟩ := lst_arg e
    obtain ⟨as, hi, e1⟩ := opt_ls e1
    obtain ⟨hl, e1⟩ := if_some e1
    cases e1
    obtain ⟨y, ys, rfl, r, rfl⟩ := r
    exact sorted_ev rfl hi hl hM r

/-! methods -/
noncomputable def MethAt (prog : Program) (w : World) (A : Around) (name : Str) (o : V) (vs : List V) (v : V) : Prop :=
  ∃ T id, PlainAttrs T ∧ Slot T name id ∧ typeOf (.builtin id) = pure (.type "method_descriptor") ∧
    (∀ (M : Gh) (s : Shared) x, VR M s.heap o x → s.TypeIs x T ∧ ∀ a, x = .ref a → ∃ ob, s.heap.get? a = some ob ∧ ob.dict = none) ∧
    (∀ (M : Gh) (s : Shared) x xs, Al M.m s.heap → VR M s.heap o x → VRs M s.heap vs xs → CallAt prog w A M id (x :: xs) v s)
theorem str_typed {n : Bool} {z : Str} (M : Gh) (s : Shared) (x : Value) (r : VR M s.heap (.str n z) x) : s.TypeIs x "str" ∧ ∀ a, x = .ref a → ∃ ob, s.heap.get? a = some ob ∧ ob.dict = none := by
  obtain ⟨t, rfl, _⟩ := r
  exact ⟨typeIs_str _ _ _, fun _ e => nomatch e⟩

theorem args_find4 (a b c d : Value) : argsOk "str.find" ⟨[a, b, c, d], []⟩ := by unfold argsOk; kernel_rfl
theorem gives_find4 (x y : Str) (i j : Int) (t u v v' : Tok) : Gives (Builtin.«str.find» ⟨[.str x t, .str y u, .int i v, .int j v'], []⟩) (.int (findS x y i j)) := by
  unfold findS
  show Gives (match occurrences x y (fromIndex x.length i) (min (fromIndex x.length j) x.length) 1 with | k :: _ => retInt k | [] => (do rule "str.find.not-found"; retInt (-1))) _
  cases occurrences x y (fromIndex x.length i) (min (fromIndex x.length j) x.length) 1 with
  | nil => exact .rule (.of_eq rfl)
  | cons k _ => exact .of_eq rfl

theorem strsFrom_vr {h : Heap} : ∀ (xs : List Str) (n : Nat), VRs M h (xs.map (V.str false)) (strsFrom n xs)
  | [], _ => rfl
  | x :: xs, n => ⟨_, _, rfl, ⟨n, rfl, fun z => nomatch z⟩, strsFrom_vr xs (n + 1)⟩
theorem parts_len (x : Str) (l : List Nat) (k : Nat) : (partsBetween x l k).length = l.length + 1 := by
  unfold partsBetween; simp

theorem if6 {α : Type} {c1 c2 c3 c4 c5 c6 : Bool} {a1 a2 a3 a4 a5 a6 : Option α} {v : α} {P : Prop} (e : (if c1 = true then a1 else if c2 = true then a2 else if c3 = true then a3 else if c4 = true then a4 else if c5 = true then a5 else if c6 = true then a6 else none) = some v)
    (h1 : c1 = true → a1 = some v → P) (h2 : c2 = true → a2 = some v → P) (h3 : c3 = true → a3 = some v → P) (h4 : c4 = true → a4 = some v → P) (h5 : c5 = true → a5 = some v → P) (h6 : c6 = true → a6 = some v → P) : P := by
  cases c1 with
  | true => exact h1 rfl e
  | false => exact if5 e h2 h3 h4 h5 h6
theorem m_str {f : Str → Str → Option V} {o : V} {vs : List V} {v : V} (e : (match o, vs with | .str _ x, [.str _ y] => f x y | _, _ => none) = some v) : ∃ n x m y, o = .str n x ∧ vs = [.str m y] ∧ f x y = some v := by
  cases o with
  | str n x => cases vs with
    | nil => exact no_some e
    | cons a vs => cases a with
      | str m y => cases vs with
        | nil => exact ⟨n, x, m, y, rfl, rfl, e⟩
        | cons => exact no_some e
      | _ => exact no_some e
  | _ => exact no_some e
theorem m_find {f : Str → Str → Int → Int → Option V} {o : V} {vs : List V} {v : V} (e : (match o, vs with | .str _ x, [.str _ y, .int i, .int j] => f x y i j | _, _ => none) = some v) : ∃ n x m y i j, o = .str n x ∧ vs = [.str m y, .int i, .int j] ∧ f x y i j = some v := by
  cases o with
  | str n x => cases vs with
    | nil => exact no_some e
    | cons a vs => cases a with
      | str m y => cases vs with
        | nil => exact no_some e
        | cons b vs => cases b with
          | int i => cases vs with
            | nil => exact no_some e
            | cons c vs => cases c with
              | int j => cases vs with
                | nil => exact ⟨n, x, m, y, i, j, rfl, rfl, e⟩
                | cons => exact no_some e
              | _ => exact no_some e
          | _ => exact no_some e
      | _ => exact no_some e
  | _ => exact no_some e
theorem m_join {f : Str → V → Option V} {o : V} {vs : List V} {v : V} (e : (match o, vs with | .str _ x, [u] => f x u | _, _ => none) = some v) : ∃ n x u, o = .str n x ∧ vs = [u] ∧ f x u = some v := by
  cases o with
  | str n x => cases vs with
    | nil => exact no_some e
    | cons a vs => cases vs with
        | nil => exact ⟨n, x, a, rfl, rfl, e⟩
        | cons => exact no_some e
  | _ => exact no_some e
theorem m_index {f : List V → V → Option V} {o : V} {vs : List V} {v : V} (e : (match o, vs with | .lst xs, [u] => f xs u | _, _ => none) = some v) : ∃ xs u, o = .lst xs ∧ vs = [u] ∧ f xs u = some v := by
  cases o with
  | lst xs => cases vs with
    | nil => exact no_some e
    | cons a vs => cases vs with
        | nil => exact ⟨xs, a, rfl, rfl, e⟩
        | cons => exact no_some e
  | _ => exact no_some e

theorem methV_ok {name : Str} {o v : V} {vs : List V} (e : methV name o vs = some v) : MethAt prog w A name o vs v := by
  have hlim := lim_le
  refine if6 e (fun hid e => ?_) (fun hid e => ?_) (fun hid e => ?_) (fun hid e => ?_) (fun hid e => ?_) (fun hid e => ?_) <;> rw [eq_of_beq hid]
  · obtain ⟨n, x, m, y, rfl, rfl, e1⟩ := m_str e
    cases e1
    refine ⟨"str", _, F.plainAttrs_str, F.slot_str_startswith, F.type_str_startswith, str_typed, fun M s x xs hM ro r => ?_⟩
    obtain ⟨t, rfl, _⟩ := ro
    obtain ⟨y, ys, rfl, ⟨u, rfl, _⟩, rfl⟩ := r
    exact fun Q E h => SC.startswith (h _ _ Adv.refl rfl)
  · obtain ⟨n, x, m, y, rfl, rfl, e1⟩ := m_str e
    cases e1
    refine ⟨"str", _, F.plainAttrs_str, F.slot_str_endswith, F.type_str_endswith, str_typed, fun M s x xs hM ro r => ?_⟩
    obtain ⟨t, rfl, _⟩ := ro
    obtain ⟨y, ys, rfl, ⟨u, rfl, _⟩, rfl⟩ := r
    exact fun Q E h => SC.endswith (h _ _ Adv.refl rfl)
  · obtain ⟨n, x, m, y, i, j, rfl, rfl, e1⟩ := m_find e
    cases (if_some e1).2
    refine ⟨"str", _, F.plainAttrs_str, F.slot_str_find, F.type_str_find, str_typed, fun M s x xs hM ro r => ?_⟩
    obtain ⟨t, rfl, _⟩ := ro
    obtain ⟨y, ys, rfl, ⟨u, rfl, _⟩, ⟨z, zs, rfl, ⟨v1, rfl⟩, ⟨q, qs, rfl, ⟨v2, rfl⟩, rfl⟩⟩⟩ := r
    exact fun Q E h => call_gives F.slot_str_find (typeIs_str _ _ _) F.entry_str_find (args_find4 _ _ _ _) (gives_find4 _ _ _ _ t u v1 v2) (h _ _ (AdvE.tok (Nat.le_succ _)) ⟨_, rfl⟩)
  · obtain ⟨n1, x1, n2, y1, rfl, rfl, e1⟩ := m_str e
    obtain ⟨hc, e1⟩ := if_some e1
    cases e1
    simp only [Bool.and_eq_true, decide_eq_true_eq, Bool.not_eq_true'] at hc
    obtain ⟨⟨⟨hl, hy⟩, hk⟩, hf⟩ := hc
    refine ⟨"str", _, F.plainAttrs_str, F.slot_str_split, F.type_str_split, str_typed, fun M s x xs hM ro r => ?_⟩
    obtain ⟨t, rfl, _⟩ := ro
    obtain ⟨y, ys, rfl, ⟨u, rfl, _⟩, rfl⟩ := r
    refine fun Q E h =>
      call_meets F.slot_str_split (typeIs_str _ _ _) F.entry_str_split (F.args_str_split_2 _ _) (meets_str_split_sep _ _ t u hk hy hf (by lia) ?_) ?_
    · rw [parts_len]
      have := StrLaws.occ_length_le x1 y1 0 x1.length (x1.length + 1)
      rw [sizeLine_eq]; unfold lim at hl; lia
    · refine h _ _ ?_ ⟨_, _, rfl, hM.fresh, ⟨_, Heap.get?_push_size _ rfl⟩, strsFrom_vr _ _⟩
      exact AdvE.of (St.push _ _) (Nat.le_add_right _ _)
  · obtain ⟨n, x, u, rfl, rfl, e1⟩ := m_join e
    obtain ⟨zs, hs, e1⟩ := opt_lv e1
    obtain ⟨ys, hst, e1⟩ := opt_lt e1
    obtain ⟨hl, e1⟩ := if_some e1
    cases e1
    refine ⟨"str", _, F.plainAttrs_str, F.slot_str_join, F.type_str_join, str_typed, fun M s x xs hM ro r => ?_⟩
    obtain ⟨t, rfl, _⟩ := ro
    obtain ⟨y, ys, rfl, r, rfl⟩ := r
    obtain ⟨l, items, rfl, hp, rs⟩ := list_of hs r
    obtain ⟨ps, rfl, hps⟩ := strsOf_ok hst rs
    refine fun Q E h => ?_
    subst hps
    exact wpAny_with_toks (Nat.le_refl s.toks) (join_list hp.isList (by simpa using strsAre_list ps) (by unfold lim at hl; lia) fun t' k hk => h _ _ (AdvE.tok hk) ⟨t', rfl, fun z => nomatch z⟩)
  · obtain ⟨zs, u, rfl, rfl, e1⟩ := m_index e
    obtain ⟨hl, e1⟩ := if_some e1
    simp only [Bool.and_eq_true, decide_eq_true_eq, Option.isSome_iff_exists] at hl
    obtain ⟨hl, b, hb⟩ := hl
    obtain ⟨j, hj, e1⟩ := opt_n e1
    cases e1
    refine ⟨"list", _, F.plainAttrs_list, F.slot_list_index, F.type_list_index, fun M s x ro => ?_, fun M s x xs hM ro r => ?_⟩
    · obtain ⟨l, items, rfl, hm, ⟨n, ho⟩, rs⟩ := ro
      exact ⟨⟨_, ho, rfl⟩, fun a e => by cases e; exact ⟨_, ho, rfl⟩⟩
    obtain ⟨y, ys, rfl, r, rfl⟩ := r
    obtain ⟨l, items, rfl, hm, ⟨n, ho⟩, rs⟩ := ro
    obtain ⟨hjl, h1, h2⟩ := idxL_ok r hj rs
    obtain ⟨g, _⟩ := inL_ok r hb rs
    have hlen := VRs.length rs
    have hjl' : j < items.size := by simpa using hjl
    refine fun Q E h => ?_
    refine call_meets F.slot_list_index ⟨_, ho, rfl⟩ F.entry_list_index (F.args_list_index_2 _ _)
      (SeqAt.list_indexAt l items n none #[] y (eqVal · y) j hjl' (by unfold lim at hl; simp at hlen; lia) (by simpa using h1) (fun m hm hlt => by have := h2 m (by simpa using hm) hlt; simpa using this)) ⟨ho, fun z hz => (g z (Array.mem_toList_iff.mpr hz)).at _ _, h _ _ (AdvE.tok (Nat.le_succ _)) ⟨_, rfl⟩⟩

/-- text.replace of two constants -/
theorem repl_ev {n : Bool} {x y z : Str} {t u v : Tok} (h1 : x.length ≤ 1000) (h2 : z.length ≤ 1000) (hyz : (y == z) = false) (hy : (y.length == 0) = false) (hu : u ≠ 0) (hv : v ≠ 0) (huv : u ≠ v) (ht : 1 ≤ s.toks) (hb : Tb M s.toks) (hn : n = true → t ≠ 0 ∧ M.τ t = some x) :
    EvAt prog w A M (call (.builtin "str.replace") [.str x t, .str y u, .str z v]) (.str (n || !(occurrences x y 0 x.length (x.length + 1)).isEmpty) (replS x y z)) s := by
  intro Q E h
  have hle := StrLaws.occ_length_le x y 0 x.length (x.length + 1)
  have hf : x.length + (occurrences x y 0 x.length (x.length + 1)).length * z.length ≤ 1100000 := by
    have : (occurrences x y 0 x.length (x.length + 1)).length * z.length ≤ 1001 * 1000 := Nat.mul_le_mul (by lia) h2
    lia
  refine call_gives F.slot_str_replace (typeIs_str _ _ _) F.entry_str_replace (F.args_str_replace_3 _ _ _) (gives_str_replace x y z t u v fun _ => ⟨?_, ?_, hyz, ?_⟩) ?_
  · simp [hu, hv]
  · simpa using huv
  · unfold tooLong; simp; rw [sizeLine_eq]; lia
  · rw [hy]
    simp only [Bool.false_and, Bool.or_false]
    cases ho : (occurrences x y 0 x.length (x.length + 1)).isEmpty with
    | true =>
      rw [if_pos rfl]
      unfold replS at h
      rw [if_pos ho] at h
      exact h _ _ M .refl hb Adv.refl ⟨t, rfl, fun q => hn (by simpa [ho] using q)⟩
    | false =>
      rw [if_neg (by simp)]
      unfold replS at h
      rw [if_neg (by simp [ho])] at h
      refine ⟨?_, h _ _ (M.put s.toks _) (Gh.put_le hb) (Gh.put_tb hb) (AdvE.tok (Nat.le_succ _)) ⟨s.toks, rfl, fun _ => ⟨Nat.ne_of_gt ht, Gh.put_at⟩⟩⟩
      exact fits_replaced y (by
        have : (x.length + 1) * z.length ≤ 1001 * 1000 := Nat.mul_le_mul (by lia) h2
        lia)

end Mine

namespace Mine
open PySem PySem.W PySem.Calls PyProof.Rows

noncomputable def findFn (nm : Str) : List Stmt → List Stmt
  | [] => []
  | .FunctionDef n _ b _ _ _ _ _ _ _ :: ss => if n == nm then b else findFn nm ss
  | _ :: ss => findFn nm ss
noncomputable def bodyOf (nm : Str) : List Stmt := findFn nm PySem.Challenge.pw_wr0034_01.main.body
noncomputable def hsOf1 : List Stmt → List ExceptHandler
  | [.Try _ hs _ _ _] => hs
  | _ => []
noncomputable def hsOf (nm : Str) : List ExceptHandler := hsOf1 (bodyOf nm)
noncomputable def raiseOf1 : List Stmt → Stmt
  | [.For _ _ _ [r] _] => r
  | _ => .Pass ⟨0, 0, 0, 0⟩
noncomputable def raiseOf : Stmt := raiseOf1 (bodyOf "indexOf")

noncomputable def nm_escape_cdata : List Str := ["text"]
noncomputable def b_escape_cdata : SL :=
    (.cons (.try_ (.cons (.iff 6008007045 (.cmp 6011006022 .In (.cstr 6011006014 "&") (.var 6018006022 0)) (.cons (.asg 7012007045 7012007016 0 (.repl 7019007045 7019007031 (.var 7019007023 0) 7032007035 "&" 7037007044 "&amp;"))
    .nil) .nil)
    (.cons (.iff 8008009044 (.cmp 8011008022 .In (.cstr 8011008014 "<") (.var 8018008022 0)) (.cons (.asg 9012009044 9012009016 0 (.repl 9019009044 9019009031 (.var 9019009023 0) 9032009035 "<" 9037009043 "&lt;"))
    .nil) .nil)
    (.cons (.iff 10008011044 (.cmp 10011010022 .In (.cstr 10011010014 ">") (.var 10018010022 0)) (.cons (.asg 11012011044 11012011016 0 (.repl 11019011044 11019011031 (.var 11019011023 0) 11032011035 ">" 11037011043 "&gt;"))
    .nil) .nil)
    (.cons (.ret 12008012019 (.var 12015012019 0))
    .nil)))) (hsOf "_escape_cdata") 5004014040)
    .nil)

noncomputable def nm_escape_attrib : List Str := ["text"]
noncomputable def b_escape_attrib : SL :=
    (.cons (.try_ (.cons (.iff 17008018045 (.cmp 17011017022 .In (.cstr 17011017014 "&") (.var 17018017022 0)) (.cons (.asg 18012018045 18012018016 0 (.repl 18019018045 18019018031 (.var 18019018023 0) 18032018035 "&" 18037018044 "&amp;"))
    .nil) .nil)
    (.cons (.iff 19008020044 (.cmp 19011019022 .In (.cstr 19011019014 "<") (.var 19018019022 0)) (.cons (.asg 20012020044 20012020016 0 (.repl 20019020044 20019020031 (.var 20019020023 0) 20032020035 "<" 20037020043 "&lt;"))
    .nil) .nil)
    (.cons (.iff 21008022044 (.cmp 21011021022 .In (.cstr 21011021014 ">") (.var 21018021022 0)) (.cons (.asg 22012022044 22012022016 0 (.repl 22019022044 22019022031 (.var 22019022023 0) 22032022035 ">" 22037022043 "&gt;"))
    .nil) .nil)
    (.cons (.iff 23008024046 (.cmp 23011023022 .In (.cstr 23011023014 "\"") (.var 23018023022 0)) (.cons (.asg 24012024046 24012024016 0 (.repl 24019024046 24019024031 (.var 24019024023 0) 24032024035 "\"" 24037024045 "&quot;"))
    .nil) .nil)
    (.cons (.iff 25008026046 (.cmp 25011025023 .In (.cstr 25011025015 "\r") (.var 25019025023 0)) (.cons (.asg 26012026046 26012026016 0 (.repl 26019026046 26019026031 (.var 26019026023 0) 26032026036 "\r" 26038026045 "&#13;"))
    .nil) .nil)
    (.cons (.iff 27008028046 (.cmp 27011027023 .In (.cstr 27011027015 "\n") (.var 27019027023 0)) (.cons (.asg 28012028046 28012028016 0 (.repl 28019028046 28019028031 (.var 28019028023 0) 28032028036 "\n" 28038028045 "&#10;"))
    .nil) .nil)
    (.cons (.iff 29008030046 (.cmp 29011029023 .In (.cstr 29011029015 "\t") (.var 29019029023 0)) (.cons (.asg 30012030046 30012030016 0 (.repl 30019030046 30019030031 (.var 30019030023 0) 30032030036 "\t" 30038030045 "&#09;"))
    .nil) .nil)
    (.cons (.ret 31008031019 (.var 31015031019 0))
    .nil)))))))) (hsOf "_escape_attrib") 16004033040)
    .nil)

noncomputable def nm_escape_attrib_html : List Str := ["text"]
noncomputable def b_escape_attrib_html : SL :=
    (.cons (.try_ (.cons (.iff 36008037045 (.cmp 36011036022 .In (.cstr 36011036014 "&") (.var 36018036022 0)) (.cons (.asg 37012037045 37012037016 0 (.repl 37019037045 37019037031 (.var 37019037023 0) 37032037035 "&" 37037037044 "&amp;"))
    .nil) .nil)
    (.cons (.iff 38008039044 (.cmp 38011038022 .In (.cstr 38011038014 ">") (.var 38018038022 0)) (.cons (.asg 39012039044 39012039016 0 (.repl 39019039044 39019039031 (.var 39019039023 0) 39032039035 ">" 39037039043 "&gt;"))
    .nil) .nil)
    (.cons (.iff 40008041046 (.cmp 40011040022 .In (.cstr 40011040014 "\"") (.var 40018040022 0)) (.cons (.asg 41012041046 41012041016 0 (.repl 41019041046 41019041031 (.var 41019041023 0) 41032041035 "\"" 41037041045 "&quot;"))
    .nil) .nil)
    (.cons (.ret 42008042019 (.var 42015042019 0))
    .nil)))) (hsOf "_escape_attrib_html") 35004044040)
    .nil)

noncomputable def nm_escape_cdata_c14n : List Str := ["text"]
noncomputable def b_escape_cdata_c14n : SL :=
    (.cons (.try_ (.cons (.iff 47008048045 (.cmp 47011047022 .In (.cstr 47011047014 "&") (.var 47018047022 0)) (.cons (.asg 48012048045 48012048016 0 (.repl 48019048045 48019048031 (.var 48019048023 0) 48032048035 "&" 48037048044 "&amp;"))
    .nil) .nil)
    (.cons (.iff 49008050044 (.cmp 49011049022 .In (.cstr 49011049014 "<") (.var 49018049022 0)) (.cons (.asg 50012050044 50012050016 0 (.repl 50019050044 50019050031 (.var 50019050023 0) 50032050035 "<" 50037050043 "&lt;"))
    .nil) .nil)
    (.cons (.iff 51008052044 (.cmp 51011051022 .In (.cstr 51011051014 ">") (.var 51018051022 0)) (.cons (.asg 52012052044 52012052016 0 (.repl 52019052044 52019052031 (.var 52019052023 0) 52032052035 ">" 52037052043 "&gt;"))
    .nil) .nil)
    (.cons (.iff 53008054046 (.cmp 53011053023 .In (.cstr 53011053015 "\r") (.var 53019053023 0)) (.cons (.asg 54012054046 54012054016 0 (.repl 54019054046 54019054031 (.var 54019054023 0) 54032054036 "\r" 54038054045 "&#xD;"))
    .nil) .nil)
    (.cons (.ret 55008055019 (.var 55015055019 0))
    .nil))))) (hsOf "_escape_cdata_c14n") 46004057040)
    .nil)

noncomputable def nm_escape_attrib_c14n : List Str := ["text"]
noncomputable def b_escape_attrib_c14n : SL :=
    (.cons (.try_ (.cons (.iff 60008061045 (.cmp 60011060022 .In (.cstr 60011060014 "&") (.var 60018060022 0)) (.cons (.asg 61012061045 61012061016 0 (.repl 61019061045 61019061031 (.var 61019061023 0) 61032061035 "&" 61037061044 "&amp;"))
    .nil) .nil)
    (.cons (.iff 62008063044 (.cmp 62011062022 .In (.cstr 62011062014 "<") (.var 62018062022 0)) (.cons (.asg 63012063044 63012063016 0 (.repl 63019063044 63019063031 (.var 63019063023 0) 63032063035 "<" 63037063043 "&lt;"))
    .nil) .nil)
    (.cons (.iff 64008065046 (.cmp 64011064022 .In (.cstr 64011064014 "\"") (.var 64018064022 0)) (.cons (.asg 65012065046 65012065016 0 (.repl 65019065046 65019065031 (.var 65019065023 0) 65032065035 "\"" 65037065045 "&quot;"))
    .nil) .nil)
    (.cons (.iff 66008067046 (.cmp 66011066023 .In (.cstr 66011066015 "\t") (.var 66019066023 0)) (.cons (.asg 67012067046 67012067016 0 (.repl 67019067046 67019067031 (.var 67019067023 0) 67032067036 "\t" 67038067045 "&#x9;"))
    .nil) .nil)
    (.cons (.iff 68008069046 (.cmp 68011068023 .In (.cstr 68011068015 "\n") (.var 68019068023 0)) (.cons (.asg 69012069046 69012069016 0 (.repl 69019069046 69019069031 (.var 69019069023 0) 69032069036 "\n" 69038069045 "&#xA;"))
    .nil) .nil)
    (.cons (.iff 70008071046 (.cmp 70011070023 .In (.cstr 70011070015 "\r") (.var 70019070023 0)) (.cons (.asg 71012071046 71012071016 0 (.repl 71019071046 71019071031 (.var 71019071023 0) 71032071036 "\r" 71038071045 "&#xD;"))
    .nil) .nil)
    (.cons (.ret 72008072019 (.var 72015072019 0))
    .nil))))))) (hsOf "_escape_attrib_c14n") 59004074040)
    .nil)

noncomputable def nm_ellipsis_match : List Str := ["want", "got", "ws", "startpos", "endpos", "w"]
noncomputable def b_ellipsis_match : SL :=
    (.cons (.iff 78004079026 (.cmp 78007078034 .NotIn (.gname 78007078022 "ELLIPSIS_MARKER") (.var 78030078034 0)) (.cons (.ret 79008079026 (.cmp 79015079026 .Eq (.var 79015079019 0) (.var 79023079026 1)))
    .nil) .nil)
    (.cons (.asgOwn 80004080036 80004080006 2 (.meth 80009080036 80009080019 (.var 80009080013 0) "split" (.cons (.gname 80020080035 "ELLIPSIS_MARKER") .nil)))
    (.cons (.assert 81004081023 (.cmp 81011081023 .GtE (.bcall 81011081018 81011081014 "len" (.cons (.var 81015081017 2) .nil)) (.cint 81022081023 2)))
    (.cons (.asg2 82004082036 82004082020 82004082012 3 82014082020 4 82023082036 (.cint 82024082025 0) (.bcall 82027082035 82027082030 "len" (.cons (.var 82031082034 1) .nil)))
    (.cons (.asg 83004083013 83004083005 5 (.idx 83008083013 (.var 83008083010 2) (.cint 83011083012 0)))
    (.cons (.iff 84004089024 (.var 84007084008 5) (.cons (.iff 85008089024 (.meth 85011085028 85011085025 (.var 85011085014 1) "startswith" (.cons (.var 85026085027 5) .nil)) (.cons (.asg 86012086029 86012086020 3 (.bcall 86023086029 86023086026 "len" (.cons (.var 86027086028 5) .nil)))
    (.cons (.del 87012087021 87016087021 87016087018 2 (.cint 87019087020 0))
    .nil)) (.cons (.ret 89012089024 (.cbool 89019089024 false))
    .nil))
    .nil) .nil)
    (.cons (.asg 90004090014 90004090005 5 (.idx 90008090014 (.var 90008090010 2) (.neg 90011090013 90012090013 1)))
    (.cons (.iff 91004096024 (.var 91007091008 5) (.cons (.iff 92008096024 (.meth 92011092026 92011092023 (.var 92011092014 1) "endswith" (.cons (.var 92024092025 5) .nil)) (.cons (.aug 93012093028 93012093018 4 .Sub (.bcall 93022093028 93022093025 "len" (.cons (.var 93026093027 5) .nil)))
    (.cons (.del 94012094022 94016094022 94016094018 2 (.neg 94019094021 94020094021 1))
    .nil)) (.cons (.ret 96012096024 (.cbool 96019096024 false))
    .nil))
    .nil) .nil)
    (.cons (.iff 97004098020 (.cmp 97007097024 .Gt (.var 97007097015 3) (.var 97018097024 4)) (.cons (.ret 98008098020 (.cbool 98015098020 false))
    .nil) .nil)
    (.cons (.forr 99004103026 (.t1 99008099009 5) (.own 99013099015 2) (.cons (.asg 100008100048 100008100016 3 (.meth 100019100048 100019100027 (.var 100019100022 1) "find" (.cons (.var 100028100029 5) (.cons (.var 100031100039 3) (.cons (.var 100041100047 4) .nil)))))
    (.cons (.iff 101008102024 (.cmp 101011101023 .Lt (.var 101011101019 3) (.cint 101022101023 0)) (.cons (.ret 102012102024 (.cbool 102019102024 false))
    .nil) .nil)
    (.cons (.aug 103008103026 103008103016 3 .Add (.bcall 103020103026 103020103023 "len" (.cons (.var 103024103025 5) .nil)))
    .nil))) .nil)
    (.cons (.ret 104004104015 (.cbool 104011104015 true))
    .nil)))))))))))

noncomputable def nm_strip_quoted_realnames : List Str := ["addr", "start", "open_pos", "result", "pos", "ch"]
noncomputable def b_strip_quoted_realnames : SL :=
    (.cons (.iff 120004121019 (.cmp 120007120022 .NotIn (.cstr 120007120010 "\"") (.var 120018120022 0)) (.cons (.ret 121008121019 (.var 121015121019 0))
    .nil) .nil)
    (.cons (.asg 122004122013 122004122009 1 (.cint 122012122013 0))
    (.cons (.asg 123004123019 123004123012 2 (.cnone 123015123019))
    (.cons (.asgOwn 124004124015 124004124010 3 (.lst 124013124015 .nil))
    (.cons (.forr 125004133031 (.t2 125008125015 125008125011 4 125013125015 5) (.gen 125019125044 125019125038 "_iter_escaped_chars" (.var 125039125043 0)) (.cons (.iff 126008133031 (.cmp 126011126020 .Eq (.var 126011126013 5) (.cstr 126017126020 "\"")) (.cons (.iff 127012133031 (.cmp 127015127031 .Is (.var 127015127023 2) (.cnone 127027127031)) (.cons (.asg 128016128030 128016128024 2 (.var 128027128030 4))
    .nil) (.cons (.iff 130016131055 (.cmp 130019130036 .NotEq (.var 130019130024 1) (.var 130028130036 2)) (.cons (.app 131020131055 131020131055 131020131033 131020131026 3 (.slc 131034131054 131039131053 (.var 131034131038 0) (.var 131039131044 1) (.var 131045131053 2)))
    .nil) .nil)
    (.cons (.asg 132016132031 132016132021 1 (.bin 132024132031 .Add (.var 132024132027 4) (.cint 132030132031 1)))
    (.cons (.asg 133016133031 133016133024 2 (.cnone 133027133031))
    .nil))))
    .nil) .nil)
    .nil) .nil)
    (.cons (.iff 134004135035 (.cmp 134007134024 .Lt (.var 134007134012 1) (.bcall 134015134024 134015134018 "len" (.cons (.var 134019134023 0) .nil))) (.cons (.app 135008135035 135008135035 135008135021 135008135014 3 (.slf 135022135034 135027135033 (.var 135022135026 0) (.var 135027135032 1)))
    .nil) .nil)
    (.cons (.ret 136004136026 (.meth 136011136026 136011136018 (.cstr 136011136013 "") "join" (.cons (.var 136019136025 3) .nil)))
    .nil)))))))

noncomputable def nm_check_parenthesis : List Str := ["addr", "opens", "pos", "ch"]
noncomputable def b_check_parenthesis : SL :=
    (.cons (.asg 138004138040 138004138008 0 (.gcall 138011138040 138011138034 "_strip_quoted_realnames" (.cons (.var 138035138039 0) .nil)))
    (.cons (.asg 139004139013 139004139009 1 (.cint 139012139013 0))
    (.cons (.forr 140004146028 (.t2 140008140015 140008140011 2 140013140015 3) (.gen 140019140044 140019140038 "_iter_escaped_chars" (.var 140039140043 0)) (.cons (.iff 141008146028 (.cmp 141011141020 .Eq (.var 141011141013 3) (.cstr 141017141020 "(")) (.cons (.aug 142012142022 142012142017 1 .Add (.cint 142021142022 1))
    .nil) (.cons (.iff 143008146028 (.cmp 143013143022 .Eq (.var 143013143015 3) (.cstr 143019143022 ")")) (.cons (.aug 144012144022 144012144017 1 .Sub (.cint 144021144022 1))
    (.cons (.iff 145012146028 (.cmp 145015145024 .Lt (.var 145015145020 1) (.cint 145023145024 0)) (.cons (.ret 146016146028 (.cbool 146023146028 false))
    .nil) .nil)
    .nil)) .nil)
    .nil))
    .nil) .nil)
    (.cons (.ret 147004147021 (.cmp 147011147021 .Eq (.var 147011147016 1) (.cint 147020147021 0)))
    .nil))))

noncomputable def nmlt : List Str := ["a", "b"]
noncomputable def blt : SL :=
    (.cons (.ret 150004150016 (.cmp 150011150016 .Lt (.var 150011150012 0) (.var 150015150016 1)))
    .nil)

noncomputable def nmsub : List Str := ["a", "b"]
noncomputable def bsub : SL :=
    (.cons (.ret 152004152016 (.bin 152011152016 .Sub (.var 152011152012 0) (.var 152015152016 1)))
    .nil)

noncomputable def nmcontains : List Str := ["a", "b"]
noncomputable def bcontains : SL :=
    (.cons (.ret 154004154017 (.cmp 154011154017 .In (.var 154011154012 1) (.var 154016154017 0)))
    .nil)

noncomputable def nmindexOf : List Str := ["a", "b", "i", "j"]
noncomputable def bindexOf : SL :=
    (.cons (.forr 156004160064 (.t2 156008156012 156008156009 2 156011156012 3) (.enm 156016156028 156016156025 (.var 156026156027 0)) (.cons (.iff 157008158020 (.iseq 157011157027 157011157017 157011157012 157016157017 157021157027 157021157022 157026157027 3 1) (.cons (.ret 158012158020 (.var 158019158020 2))
    .nil) .nil)
    .nil) (.cons (.raise raiseOf)
    .nil))
    .nil)

noncomputable def nm_law_written : List Str := ["which", "text"]
noncomputable def b_law_written : SL :=
    (.cons (.iff 163004164034 (.cmp 163007163017 .Eq (.var 163007163012 0) (.cint 163016163017 0)) (.cons (.ret 164008164034 (.gcall 164015164034 164015164028 "_escape_cdata" (.cons (.var 164029164033 1) .nil)))
    .nil) .nil)
    (.cons (.iff 165004166035 (.cmp 165007165017 .Eq (.var 165007165012 0) (.cint 165016165017 1)) (.cons (.ret 166008166035 (.gcall 166015166035 166015166029 "_escape_attrib" (.cons (.var 166030166034 1) .nil)))
    .nil) .nil)
    (.cons (.iff 167004168040 (.cmp 167007167017 .Eq (.var 167007167012 0) (.cint 167016167017 2)) (.cons (.ret 168008168040 (.gcall 168015168040 168015168034 "_escape_attrib_html" (.cons (.var 168035168039 1) .nil)))
    .nil) .nil)
    (.cons (.iff 169004170039 (.cmp 169007169017 .Eq (.var 169007169012 0) (.cint 169016169017 3)) (.cons (.ret 170008170039 (.gcall 170015170039 170015170033 "_escape_cdata_c14n" (.cons (.var 170034170038 1) .nil)))
    .nil) .nil)
    (.cons (.ret 171004171036 (.gcall 171011171036 171011171030 "_escape_attrib_c14n" (.cons (.var 171031171035 1) .nil)))
    .nil)))))

noncomputable def nm_law_spelled : List Str := ["which", "name", "due"]
noncomputable def b_law_spelled : SL :=
    (.cons (.asg 173004173096 173004173007 2 (.dict 173010173096 [(173011173014, "&"), (173025173028, "<"), (173061173064, ">")] (.cons (.cstr 173016173023 "&amp;") (.cons (.ite 173030173059 (.cmp 173037173047 .Eq (.var 173037173042 0) (.cint 173046173047 2)) (.cstr 173030173033 "<") (.cstr 173053173059 "&lt;")) (.cons (.ite 173066173095 (.cmp 173073173083 .Eq (.var 173073173078 0) (.cint 173082173083 4)) (.cstr 173066173069 ">") (.cstr 173089173095 "&gt;")) .nil)))))
    (.cons (.ret 174004174048 (.meth 174011174048 174011174018 (.cstr 174011174013 "") "join" (.cons (.comp 174019174047 ⟨.function, [(".0", .local), ("sign", .local), ("due", .free)], false, false, []⟩ ["sign", "due"] [2] (.t1 174034174038 0) (.val (.var 174042174046 1)) .none (.idx 174020174029 (.var 174020174023 1) (.var 174024174028 0))) .nil)))
    .nil))

noncomputable def nm_law_names : List Str := ["keys", "names", "key", "name"]
noncomputable def b_law_names : SL :=
    (.cons (.asgOwn 176004176014 176004176009 1 (.lst 176012176014 .nil))
    (.cons (.forr 177004181026 (.t1 177008177011 2) (.val (.var 177015177019 0)) (.cons (.asg 178008178018 178008178012 3 (.cstr 178015178018 "&"))
    (.cons (.whil 179008180073 (.gcall 179014179035 179014179022 "contains" (.cons (.var 179023179028 1) (.cons (.var 179030179034 3) .nil))) (.cons (.aug 180012180073 180012180016 3 .Add (.ite 180020180073 (.gcall 180028180063 180028180030 "lt" (.cons (.var 180031180034 2) (.cons (.idx 180036180062 (.var 180036180040 0) (.gcall 180041180061 180041180048 "indexOf" (.cons (.var 180049180054 1) (.cons (.var 180056180060 3) .nil)))) .nil))) (.cstr 180020180024 "<&") (.cstr 180069180073 ">&")))
    .nil))
    (.cons (.app 181008181026 181008181026 181008181020 181008181013 1 (.var 181021181025 3))
    .nil))) .nil)
    (.cons (.retOwn 182004182016 182011182016 1)
    .nil)))

noncomputable def nm_law_side : List Str := ["ranks", "u", "v", "low", "high"]
noncomputable def b_law_side : SL :=
    (.cons (.asg2 184004184066 184004184013 184004184007 3 184009184013 4 184016184066 (.bcall 184017184040 184017184020 "min" (.cons (.idx 184021184029 (.var 184021184026 0) (.var 184027184028 1)) (.cons (.idx 184031184039 (.var 184031184036 0) (.var 184037184038 2)) .nil))) (.bcall 184042184065 184042184045 "max" (.cons (.idx 184046184054 (.var 184046184051 0) (.var 184052184053 1)) (.cons (.idx 184056184064 (.var 184056184061 0) (.var 184062184063 2)) .nil))))
    (.cons (.iff 185004186017 (.boo 185007185075 .Or (.cmp 185007185013 .GtE (.var 185007185008 1) (.var 185012185013 2)) (.cmp 185017185075 .NotEq (.bcall 185017185070 185017185020 "min" (.cons (.comp 185021185069 ⟨.function, [(".0", .local), ("w", .local), ("high", .free), ("low", .free), ("ranks", .free)], false, false, []⟩ ["w", "high", "low", "ranks"] [4, 3, 0] (.t1 185028185029 0) (.rng 185033185041 185033185038 (.cint 185039185040 5)) (.some (.chain 185045185068 .LtE .LtE (.var 185045185048 2) (.idx 185052185060 (.var 185052185057 3) (.var 185058185059 0)) (.var 185064185068 1))) (.var 185022185023 0)) .nil)) (.var 185074185075 1))) (.cons (.ret 186008186017 (.cstr 186015186017 ""))
    .nil) .nil)
    (.cons (.ret 187004187046 (.ite 187011187046 (.cmp 187018187037 .Lt (.idx 187018187026 (.var 187018187023 0) (.var 187024187025 2)) (.idx 187029187037 (.var 187029187034 0) (.var 187035187036 1))) (.cstr 187011187014 "<") (.cstr 187043187046 ">")))
    .nil)))

noncomputable def nm_law_ways_are_told : List Str := ["which", "names", "written", "sides", "twice", "u", "closing", "sign", "leads", "v", "lead", "below", "between"]
noncomputable def b_law_ways_are_told : SL :=
    (.cons (.asg 189004189050 189004189009 4 (.bin 189012189050 .Mult (.bin 189013189045 .Add (.cstr 189013189018 "...") (.gcall 189021189045 189021189033 "_law_written" (.cons (.var 189034189039 0) (.cons (.cstr 189041189044 "&") .nil)))) (.cint 189049189050 2)))
    (.cons (.forr 190004205036 (.t1 190008190009 5) (.rng 190013190021 190013190018 (.cint 190019190020 5)) (.cons (.asg 191008191034 191008191015 6 (.bin 191018191034 .Add (.idx 191018191028 (.var 191018191025 2) (.var 191026191027 5)) (.cstr 191031191034 "=")))
    (.cons (.iff 192008193024 (.cmp 192011192075 .IsNot (.gcall 192011192062 192011192026 "_ellipsis_match" (.cons (.bin 192027192052 .Add (.bin 192027192042 .Add (.var 192027192034 6) (.cstr 192037192042 "...")) (.var 192045192052 6)) (.cons (.var 192054192061 6) .nil))) (.cbool 192070192075 false)) (.cons (.ret 193012193024 (.cbool 193019193024 false))
    .nil) .nil)
    (.cons (.asg 194008194079 194008194013 8 (.comp 194016194079 ⟨.function, [(".0", .local), ("sign", .local), ("_law_written", .globalImplicit), ("names", .free), ("u", .free), ("which", .free)], false, false, []⟩ ["sign", "names", "u", "which"] [1, 5, 0] (.t1 194066194070 0) (.val (.cstr 194074194078 "<>")) .none (.tup 194017194061 (.cons (.var 194018194022 0) (.cons (.gcall 194024194060 194024194036 "_law_written" (.cons (.var 194037194042 3) (.cons (.bin 194044194059 .Add (.idx 194044194052 (.var 194044194049 1) (.var 194050194051 2)) (.var 194055194059 0)) .nil))) .nil)))))
    (.cons (.forr 195008205036 (.t1 195012195013 9) (.rng 195017195025 195017195022 (.cint 195023195024 5)) (.cons (.iff 196012197028 (.cmp 196015196073 .IsNot (.gcall 196015196057 196015196030 "_ellipsis_match" (.cons (.var 196031196038 6) (.cons (.bin 196040196056 .Add (.idx 196040196050 (.var 196040196047 2) (.var 196048196049 9)) (.cstr 196053196056 "=")) .nil))) (.cmp 196066196072 .Eq (.var 196066196067 5) (.var 196071196072 9))) (.cons (.ret 197016197028 (.cbool 197023197028 false))
    .nil) .nil)
    (.cons (.forr 198012205036 (.t2 198016198026 198016198020 7 198022198026 10) (.val (.var 198030198035 8)) (.cons (.asg 199016199043 199016199021 11 (.cmp 199024199043 .Eq (.idx 199024199035 (.idx 199024199032 (.var 199024199029 3) (.var 199030199031 5)) (.var 199033199034 9)) (.var 199039199043 7)))
    (.cons (.iff 200016201032 (.cmp 200019200080 .IsNot (.gcall 200019200067 200019200034 "_ellipsis_match" (.cons (.bin 200035200048 .Add (.var 200035200039 10) (.cstr 200042200048 "...=")) (.cons (.bin 200050200066 .Add (.idx 200050200060 (.var 200050200057 2) (.var 200058200059 9)) (.cstr 200063200066 "=")) .nil))) (.var 200075200080 11)) (.cons (.ret 201020201032 (.cbool 201027201032 false))
    .nil) .nil)
    (.cons (.iff 202016205036 (.var 202019202024 11) (.cons (.asg 203020203094 203020203027 12 (.comp 203030203094 ⟨.function, [(".0", .local), ("w", .local), ("sides", .free), ("u", .free), ("v", .free)], false, false, []⟩ ["w", "sides", "u", "v"] [3, 5, 9] (.t1 203037203038 0) (.rng 203042203050 203042203047 (.cint 203048203049 5)) (.some (.boo 203054203093 .And (.cmp 203054203071 .NotEq (.idx 203054203065 (.idx 203054203062 (.var 203054203059 1) (.var 203060203061 2)) (.var 203063203064 0)) (.cstr 203069203071 "")) (.cmp 203076203093 .NotEq (.idx 203076203087 (.idx 203076203084 (.var 203076203081 1) (.var 203082203083 0)) (.var 203085203086 3)) (.cstr 203091203093 "")))) (.var 203031203032 0)))
    (.cons (.iff 204020205036 (.cmp 204023204102 .IsNot (.gcall 204023204079 204023204038 "_ellipsis_match" (.cons (.bin 204039204060 .Add (.bin 204039204051 .Add (.var 204039204043 10) (.var 204046204051 4)) (.cstr 204054204060 "...=")) (.cons (.bin 204062204078 .Add (.idx 204062204072 (.var 204062204069 2) (.var 204070204071 9)) (.cstr 204075204078 "=")) .nil))) (.cmp 204088204101 .NotEq (.var 204088204095 12) (.lst 204099204101 .nil))) (.cons (.ret 205024205036 (.cbool 205031205036 false))
    .nil) .nil)
    .nil)) .nil)
    .nil))) .nil)
    .nil)) .nil)
    .nil)))) .nil)
    (.cons (.ret 206004206015 (.cbool 206011206015 true))
    .nil)))

noncomputable def nm_law_row_is_told : List Str := ["names", "ranks", "sides", "inside", "spot", "hidden", "row", "opens", "closes", "u", "held", "ahead", "due", "place", "units", "mates", "size", "whole"]
noncomputable def b_law_row_is_told : SL :=
    (.cons (.asg 208004208056 208004208007 6 (.bcall 208010208056 208010208016 "sorted" (.cons (.bin 208017208055 .Add (.var 208017208022 0) (.comp 208025208055 ⟨.function, [(".0", .local), ("name", .local)], false, false, []⟩ ["name"] [] (.t1 208041208045 0) (.val (.var 208049208054 0)) .none (.bin 208026208036 .Add (.var 208026208030 0) (.cstr 208033208036 "=")))) .nil)))
    (.cons (.asg 209004209050 209004209009 7 (.comp 209012209050 ⟨.function, [(".0", .local), ("name", .local), ("indexOf", .globalImplicit), ("row", .free)], false, false, []⟩ ["name", "row"] [6] (.t1 209036209040 0) (.val (.var 209044209049 0)) .none (.gcall 209013209031 209013209020 "indexOf" (.cons (.var 209021209024 1) (.cons (.var 209026209030 0) .nil)))))
    (.cons (.asg 210004210057 210004210010 8 (.comp 210013210057 ⟨.function, [(".0", .local), ("name", .local), ("indexOf", .globalImplicit), ("row", .free)], false, false, []⟩ ["name", "row"] [6] (.t1 210043210047 0) (.val (.var 210051210056 0)) .none (.gcall 210014210038 210014210021 "indexOf" (.cons (.var 210022210025 1) (.cons (.bin 210027210037 .Add (.var 210027210031 0) (.cstr 210034210037 "=")) .nil)))))
    (.cons (.forr 211004221024 (.t1 211008211009 9) (.rng 211013211021 211013211018 (.cint 211019211020 5)) (.cons (.asg 212008212061 212008212012 10 (.comp 212015212061 ⟨.function, [(".0", .local), ("v", .local), ("inside", .free), ("sides", .free), ("u", .free)], false, false, []⟩ ["v", "inside", "sides", "u"] [3, 2, 9] (.t1 212022212023 0) (.rng 212027212035 212027212032 (.cint 212033212034 5)) (.some (.cmp 212039212060 .In (.idx 212039212050 (.idx 212039212047 (.var 212039212044 2) (.var 212045212046 3)) (.var 212048212049 0)) (.var 212054212060 1))) (.var 212016212017 0)))
    (.cons (.iff 213008214024 (.cmp 213011213056 .NotEq (.gcall 213011213035 213011213014 "sub" (.cons (.idx 213015213024 (.var 213015213021 8) (.var 213022213023 9)) (.cons (.idx 213026213034 (.var 213026213031 7) (.var 213032213033 9)) .nil))) (.bin 213039213056 .Add (.bin 213039213052 .Mult (.cint 213039213040 2) (.bcall 213043213052 213043213046 "len" (.cons (.var 213047213051 10) .nil))) (.cint 213055213056 1))) (.cons (.ret 214012214024 (.cbool 214019214024 false))
    .nil) .nil)
    (.cons (.asg 215008215062 215008215013 11 (.comp 215016215062 ⟨.function, [(".0", .local), ("v", .local), ("closes", .free), ("u", .free)], false, false, []⟩ ["v", "closes", "u"] [8, 9] (.t1 215023215024 0) (.rng 215028215036 215028215033 (.cint 215034215035 5)) (.some (.cmp 215040215061 .Lt (.idx 215040215049 (.var 215040215046 1) (.var 215047215048 0)) (.idx 215052215061 (.var 215052215058 1) (.var 215059215060 2)))) (.var 215017215018 0)))
    (.cons (.iff 216008219099 (.cmp 216011216027 .Eq (.bcall 216011216022 216011216014 "len" (.cons (.var 216015216021 3) .nil)) (.cint 216026216027 1)) (.cons (.asg 217012217062 217012217015 12 (.comp 217018217062 ⟨.function, [(".0", .local), ("v", .local), ("ranks", .free), ("u", .free)], false, false, []⟩ ["v", "ranks", "u"] [1, 9] (.t1 217025217026 0) (.rng 217030217038 217030217035 (.cint 217036217037 5)) (.some (.cmp 217042217061 .Lt (.idx 217042217050 (.var 217042217047 1) (.var 217048217049 0)) (.idx 217053217061 (.var 217053217058 1) (.var 217059217060 2)))) (.var 217019217020 0)))
    .nil) (.cons (.asg 219012219099 219012219015 12 (.comp 219018219099 ⟨.function, [(".0", .local), ("v", .local), ("held", .free), ("ranks", .free), ("sides", .free), ("u", .free)], false, false, []⟩ ["v", "held", "ranks", "sides", "u"] [10, 1, 2, 9] (.t1 219025219026 0) (.rng 219030219038 219030219035 (.cint 219036219037 5)) (.some (.boo 219042219098 .Or (.cmp 219042219051 .In (.var 219042219043 0) (.var 219047219051 1)) (.boo 219056219097 .And (.cmp 219056219073 .Eq (.idx 219056219067 (.idx 219056219064 (.var 219056219061 3) (.var 219062219063 0)) (.var 219065219066 4)) (.cstr 219071219073 "")) (.cmp 219078219097 .Gt (.idx 219078219086 (.var 219078219083 2) (.var 219084219085 0)) (.idx 219089219097 (.var 219089219094 2) (.var 219095219096 4)))))) (.var 219019219020 0)))
    .nil))
    (.cons (.iff 220008221024 (.cmp 220011220023 .NotEq (.var 220011220016 11) (.var 220020220023 12)) (.cons (.ret 221012221024 (.cbool 221019221024 false))
    .nil) .nil)
    .nil))))) .nil)
    (.cons (.asg 222004222105 222004222009 14 (.comp 222012222105 ⟨.function, [(".0", .local), ("place", .local), ("hidden", .free), ("opens", .free), ("spot", .free)], false, false, []⟩ ["place", "hidden", "opens", "spot"] [5, 7, 4] (.t1 222086222091 0) (.rng 222095222104 222095222100 (.cint 222101222103 10)) .none (.bin 222013222081 .Add (.ite 222014222044 (.cmp 222021222035 .In (.var 222021222026 0) (.var 222030222035 2)) (.cstr 222014222017 "(") (.cstr 222041222044 ")")) (.ite 222049222080 (.cmp 222059222072 .Eq (.var 222059222064 0) (.var 222068222072 3)) (.var 222049222055 1) (.cstr 222078222080 "")))))
    (.cons (.asg 223004223113 223004223009 15 (.comp 223012223113 ⟨.function, [(".0", .local), ("place", .local), ("closes", .free), ("opens", .free)], false, false, []⟩ ["place", "closes", "opens"] [8, 7] (.t1 223094223099 0) (.rng 223103223112 223103223108 (.cint 223109223111 10)) .none (.ite 223013223089 (.cmp 223043223057 .In (.var 223043223048 0) (.var 223052223057 2)) (.idx 223013223039 (.var 223013223019 1) (.meth 223020223038 223020223031 (.var 223020223025 2) "index" (.cons (.var 223032223037 0) .nil))) (.idx 223063223089 (.var 223063223068 2) (.meth 223069223088 223069223081 (.var 223069223075 1) "index" (.cons (.var 223082223087 0) .nil))))))
    (.cons (.forr 224004228028 (.t1 224008224012 16) (.val (.tup 224016224022 (.cons (.cint 224017224018 2) (.cons (.cint 224020224021 4) .nil)))) (.cons (.forr 225008228028 (.t1 225012225017 13) (.rng 225021225037 225021225026 (.bin 225027225036 .Sub (.cint 225027225029 11) (.var 225032225036 16))) (.cons (.asg 226012226109 226012226017 17 (.boo 226020226109 .And (.cmp 226020226059 .GtE (.bcall 226020226050 226020226023 "min" (.cons (.slc 226024226049 226030226048 (.var 226024226029 15) (.var 226030226035 13) (.bin 226036226048 .Add (.var 226036226041 13) (.var 226044226048 16))) .nil)) (.var 226054226059 13)) (.cmp 226064226109 .Lt (.bcall 226064226094 226064226067 "max" (.cons (.slc 226068226093 226074226092 (.var 226068226073 15) (.var 226074226079 13) (.bin 226080226092 .Add (.var 226080226085 13) (.var 226088226092 16))) .nil)) (.bin 226097226109 .Add (.var 226097226102 13) (.var 226105226109 16)))))
    (.cons (.iff 227012228028 (.cmp 227015227082 .IsNot (.gcall 227015227069 227015227033 "_check_parenthesis" (.cons (.meth 227034227068 227034227041 (.cstr 227034227036 "") "join" (.cons (.slc 227042227067 227048227066 (.var 227042227047 14) (.var 227048227053 13) (.bin 227054227066 .Add (.var 227054227059 13) (.var 227062227066 16))) .nil)) .nil)) (.var 227077227082 17)) (.cons (.ret 228016228028 (.cbool 228023228028 false))
    .nil) .nil)
    .nil)) .nil)
    .nil) .nil)
    (.cons (.ret 229004229015 (.cbool 229011229015 true))
    .nil))))))))

noncomputable def nmlaw : List Str := ["script", "keys", "total", "which", "rest", "spot", "hidden", "names", "kind", "written", "ranks", "sides"]
noncomputable def blaw : SL :=
    (.cons (.asg 231004231091 231004231008 1 (.comp 231011231091 ⟨.function, [(".0", .local), ("k", .local), ("due", .local), ("len", .globalImplicit), ("script", .free)], false, false, []⟩ ["k", "due", "script"] [0] (.t2 231054231060 231054231055 0 231057231060 1) (.enm 231064231090 231064231073 (.tup 231074231089 (.cons (.cint 231075231076 4) (.cons (.cint 231078231079 1) (.cons (.cint 231081231082 6) (.cons (.cint 231084231085 4) (.cons (.cint 231087231088 2) .nil))))))) .none (.ite 231012231049 (.cmp 231025231040 .Lt (.var 231025231026 0) (.bcall 231029231040 231029231032 "len" (.cons (.var 231033231039 2) .nil))) (.idx 231012231021 (.var 231012231018 2) (.var 231019231020 0)) (.var 231046231049 1))))
    (.cons (.asg 232004232028 232004232009 2 (.bin 232012232028 .Add (.cint 232012232014 80) (.bcall 232017232028 232017232020 "sum" (.cons (.var 232021232027 0) .nil))))
    (.cons (.asg2 233004233041 233004233015 233004233009 3 233011233015 4 233018233041 (.bin 233019233028 .Mod (.var 233019233024 2) (.cint 233027233028 5)) (.bin 233030233040 .FloorDiv (.var 233030233035 2) (.cint 233039233040 5)))
    (.cons (.asg2 234004234082 234004234016 234004234008 5 234010234016 6 234019234082 (.bin 234020234029 .Mod (.var 234020234024 4) (.cint 234027234029 10)) (.idx 234031234081 (.tup 234031234065 (.cons (.cstr 234032234034 "") (.cons (.cstr 234036234044 "\"\\\"(\"") (.cons (.cstr 234046234051 "\\)") (.cons (.cstr 234053234059 "\\\\") (.cons (.cstr 234061234064 "\"") .nil)))))) (.bin 234066234080 .Mod (.bin 234066234076 .FloorDiv (.var 234066234070 4) (.cint 234074234076 10)) (.cint 234079234080 5))))
    (.cons (.asg 235004235028 235004235009 7 (.gcall 235012235028 235012235022 "_law_names" (.cons (.var 235023235027 1) .nil)))
    (.cons (.forr 236004238024 (.t1 236008236012 8) (.val (.tup 236016236026 (.cons (.cint 236017236018 0) (.cons (.var 236020236025 3) .nil)))) (.cons (.iff 237008238024 (.cmp 237011237103 .NotEq (.comp 237011237055 ⟨.function, [(".0", .local), ("name", .local), ("_law_written", .globalImplicit), ("kind", .free)], false, false, []⟩ ["name", "kind"] [8] (.t1 237041237045 0) (.val (.var 237049237054 7)) .none (.gcall 237012237036 237012237024 "_law_written" (.cons (.var 237025237029 1) (.cons (.var 237031237035 0) .nil)))) (.comp 237059237103 ⟨.function, [(".0", .local), ("name", .local), ("_law_spelled", .globalImplicit), ("kind", .free)], false, false, []⟩ ["name", "kind"] [8] (.t1 237089237093 0) (.val (.var 237097237102 7)) .none (.gcall 237060237084 237060237072 "_law_spelled" (.cons (.var 237073237077 1) (.cons (.var 237079237083 0) .nil))))) (.cons (.ret 238012238024 (.cbool 238019238024 false))
    .nil) .nil)
    .nil) .nil)
    (.cons (.asg 239004239059 239004239011 9 (.comp 239014239059 ⟨.function, [(".0", .local), ("name", .local), ("_law_written", .globalImplicit), ("which", .free)], false, false, []⟩ ["name", "which"] [3] (.t1 239045239049 0) (.val (.var 239053239058 7)) .none (.gcall 239015239040 239015239027 "_law_written" (.cons (.var 239028239033 1) (.cons (.var 239035239039 0) .nil)))))
    (.cons (.asg 240004240113 240004240009 10 (.comp 240012240113 ⟨.function, [(".0", .local), ("k", .cell), ("len", .globalImplicit), ("range", .globalImplicit), ("keys", .free)], false, false, []⟩ ["k", "keys"] [1] (.t1 240099240100 0) (.rng 240104240112 240104240109 (.cint 240110240111 5)) .none (.bcall 240013240094 240013240016 "len" (.cons (.comp 240017240093 ⟨.function, [(".0", .local), ("j", .local), ("k", .free), ("keys", .free)], false, false, []⟩ ["j", "k", "keys"] [0, 1] (.t1 240024240025 0) (.rng 240029240037 240029240034 (.cint 240035240036 5)) (.some (.boo 240041240092 .Or (.cmp 240041240058 .Lt (.idx 240041240048 (.var 240041240045 2) (.var 240046240047 0)) (.idx 240051240058 (.var 240051240055 2) (.var 240056240057 1))) (.boo 240063240091 .And (.cmp 240063240081 .Eq (.idx 240063240070 (.var 240063240067 2) (.var 240068240069 0)) (.idx 240074240081 (.var 240074240078 2) (.var 240079240080 1))) (.cmp 240086240091 .Lt (.var 240086240087 0) (.var 240090240091 1))))) (.var 240018240019 0)) .nil))))
    (.cons (.asg 241004241074 241004241009 11 (.comp 241012241074 ⟨.function, [(".0", .local), ("u", .cell), ("range", .globalImplicit), ("ranks", .free)], false, false, []⟩ ["u", "ranks"] [10] (.t1 241060241061 0) (.rng 241065241073 241065241070 (.cint 241071241072 5)) .none (.comp 241013241055 ⟨.function, [(".0", .local), ("v", .local), ("_law_side", .globalImplicit), ("ranks", .free), ("u", .free)], false, false, []⟩ ["v", "ranks", "u"] [1, 0] (.t1 241041241042 0) (.rng 241046241054 241046241051 (.cint 241052241053 5)) .none (.gcall 241014241036 241014241023 "_law_side" (.cons (.var 241024241029 1) (.cons (.var 241031241032 2) (.cons (.var 241034241035 0) .nil)))))))
    (.cons (.iff 242004243020 (.not_ 242007242059 (.gcall 242011242059 242011242029 "_law_ways_are_told" (.cons (.var 242030242035 3) (.cons (.var 242037242042 7) (.cons (.var 242044242051 9) (.cons (.var 242053242058 11) .nil)))))) (.cons (.ret 243008243020 (.cbool 243015243020 false))
    .nil) .nil)
    (.cons (.iff 244004245020 (.not_ 244007244069 (.gcall 244011244069 244011244027 "_law_row_is_told" (.cons (.var 244028244033 7) (.cons (.var 244035244040 10) (.cons (.var 244042244047 11) (.cons (.lst 244049244054 (.cons (.cstr 244050244053 "<") .nil)) (.cons (.var 244056244060 5) (.cons (.var 244062244068 6) .nil)))))))) (.cons (.ret 245008245020 (.cbool 245015245020 false))
    .nil) .nil)
    (.cons (.ret 246004246101 (.gcall 246011246101 246011246027 "_law_row_is_told" (.cons (.var 246028246035 9) (.cons (.var 246037246042 10) (.cons (.var 246044246049 11) (.cons (.ite 246051246086 (.cmp 246060246070 .Eq (.var 246060246065 3) (.cint 246069246070 4)) (.lst 246051246056 (.cons (.cstr 246052246055 "<") .nil)) (.lst 246076246086 (.cons (.cstr 246077246080 "<") (.cons (.cstr 246082246085 ">") .nil)))) (.cons (.var 246088246092 5) (.cons (.var 246094246100 6) .nil))))))))
    .nil))))))))))))

end Mine

namespace Mine
open PySem PySem.W PySem.Calls PyProof.Rows

/-! enumerate over a tuple -/
section
variable {prog : Program} {w : World} {A : Around} {E : Value → Shared → Prop} {s : Shared}
open PySem.AutoSeq1 (wpAny_loadPart')

theorem nextOf_tuple_item {it t : Addr} {i : Nat} {items} {x : Value} {Q : Value → Shared → Prop} (hit : s.heap.IsTupleIter it t i)
    (ht : s.heap.IsTuple t items) (hx : items[i]? = some x)
    (hQ : ∀ h', h'.IsTupleIter it t (i + 1) → Heap.SameBut it s.heap h' → Q x { s with heap := h' }) :
    wpAny (model prog w) A (Builtin.SmallTypes.nextOf (.ref it)) Q E s := by
  obtain ⟨o, ho, hc, hd⟩ := id hit
  obtain ⟨ol, hol, _, nl, hdl⟩ := ht
  unfold Builtin.SmallTypes.nextOf
  refine wpAny_bind (wpAny_callSpecial?_slot (name := Str.ofString "__next__") hit.typeIs F.slot_tuple_iterator_next
    (wpAny_call_entry F.slot_tuple_iterator_next hit.typeIs F.entry_tuple_iterator_next ?_ (F.args_tuple_iterator_next_1 _)))
  show wpAny _ _ (field (.ref it) 0 >>= _) _ _ s
  refine wpAny_bind (wpAny_field ho hd (x := .ref t) rfl ?_)
  show wpAny _ _ (if (Value.ref t == Value.none) = true then _ else _) _ _ s
  rw [if_neg (show ¬ ((Value.ref t == Value.none) = true) from Bool.false_ne_true)]
  show wpAny _ _ (field (.ref it) 1 >>= _) _ _ s
  refine wpAny_bind (wpAny_field ho hd (x := .int i 0) rfl ?_)
  show wpAny _ _ (seqItems? (.ref t) >>= _) _ _ s
  refine wpAny_bind (wpAny_seqItems hol hdl ?_)
  simp only [Int.toNat_natCast, hx]
  refine wpAny_bind (wpAny_setField ho hd (by simp) (wpAny_pure ⟨x, rfl, wpAny_pure (hQ _ ?_ (Heap.SameBut.update ..))⟩))
  exact ⟨_, Heap.get?_update_self _ ho (Obj.isFreed_of_fields (Obj.data_mapFields hd _)), (Obj.cls_mapFields ..).trans hc, by
    rw [Obj.data_mapFields hd]; simp [rawInt]⟩

theorem nextOf_tuple_end {it t : Addr} {i : Nat} {items} {Q : Value → Shared → Prop} (hh : A.handled = none)
    (hit : s.heap.IsTupleIter it t i) (ht : s.heap.IsTuple t items) (hx : items[i]? = none)
    (hE : ∀ h' e, Heap.ExtBut it s.heap h' → (∃ o, h'.get? e = some o ∧ o.cls = .type "StopIteration") → E (.ref e) { s with heap := h' }) :
    wpAny (model prog w) A (Builtin.SmallTypes.nextOf (.ref it)) Q E s := by
  obtain ⟨o, ho, hc, hd⟩ := id hit
  obtain ⟨ol, hol, _, nl, hdl⟩ := ht
  unfold Builtin.SmallTypes.nextOf
  refine wpAny_bind (wpAny_callSpecial?_slot (name := Str.ofString "__next__") hit.typeIs F.slot_tuple_iterator_next
    (wpAny_call_entry F.slot_tuple_iterator_next hit.typeIs F.entry_tuple_iterator_next ?_ (F.args_tuple_iterator_next_1 _)))
  show wpAny _ _ (field (.ref it) 0 >>= _) _ _ s
  refine wpAny_bind (wpAny_field ho hd (x := .ref t) rfl ?_)
  show wpAny _ _ (if (Value.ref t == Value.none) = true then _ else _) _ _ s
  rw [if_neg (show ¬ ((Value.ref t == Value.none) = true) from Bool.false_ne_true)]
  show wpAny _ _ (field (.ref it) 1 >>= _) _ _ s
  refine wpAny_bind (wpAny_field ho hd (x := .int i 0) rfl ?_)
  show wpAny _ _ (seqItems? (.ref t) >>= _) _ _ s
  refine wpAny_bind (wpAny_seqItems hol hdl ?_)
  simp only [Int.toNat_natCast, hx]
  refine wpAny_bind (wpAny_rule (wpAny_bind (wpAny_setField ho hd (by simp) ?_)))
  show wpAny _ _ (newExc (.type "StopIteration") [] >>= _) _ _ _
  refine wpAny_bind ?_
  simp only [newExc, newTuple]
  refine wpAny_bind (wpAny_newObj_type ?_ (by size_fits))
  refine wpAny_bind (m := firstArgMember _ _) (wpAny_of_eq (a := Value.none) (by first | rfl | (simp only [firstArgMember]; rfl)) ?_)
  refine wpAny_newObj_type ?_ (by size_fits)
  simp only [raiseNew]
  refine wpAny_bind (wpAny_handled ?_)
  first | rw [show A.in1.handled = none from hh] | rw [hh]
  refine wpAny_bind (wpAny_pure (wpAny_throw ?_))
  exact hE _ _ (((Heap.SameBut.update ..).extBut.push _).push _) ⟨_, Heap.get?_push_size _ rfl, rfl⟩

theorem draws_tuple (hh : A.handled = none) (it l : Addr) (hne : l ≠ it) (items : Array Value) :
    Draws prog w A it [it, l] items.size (fun i v => items[i]? = some v) (fun i h => h.IsTupleIter it l i ∧ h.IsTuple l items) where
  live := fun _ _ st => let ⟨o, ho, _⟩ := st.1; ⟨o, ho⟩
  frame := fun _ _ _ st hk => ⟨let ⟨o, ho, r⟩ := st.1; ⟨o, hk it (by simp) o ho, r⟩, let ⟨o, ho, r⟩ := st.2; ⟨o, hk l (by simp) o ho, r⟩⟩
  item := fun i s Q E hi st hQ => by
    refine nextOf_tuple_item st.1 st.2 (x := items[i]) (by simp [hi]) fun h' hit' hs' => ?_
    exact hQ _ h' s.toks (by simp [hi]) ⟨hit', st.2.extBut hs'.extBut hne⟩ hs'
  done := fun s Q E st hE => nextOf_tuple_end hh st.1 st.2 (by simp) hE

set_option maxHeartbeats 1000000 in
theorem meets_enumerate_newT (l : Addr) (items : Array Value) (n : Nat) (dct : Option Addr) (sl : Array (Option Value)) :
    Meets (Builtin.«enumerate.__new__» ⟨[.type "enumerate", .ref l], []⟩) (fun _ R s => s.heap.get? l = some { cls := .type "tuple", dict := dct, data := .seq items n, slots := sl } ∧
      R (.ok (.ret (.ref (s.heap.push { cls := .type "tuple_iterator", data := .fields #[.ref l, .int 0 0] }).objs.size)))
        { s with heap := (s.heap.push { cls := .type "tuple_iterator", data := .fields #[.ref l, .int 0 0] }).push { cls := .type "enumerate", data := .fields #[.none, .bool false, .ref s.heap.objs.size, rawInt 0, .none, .none] } }) :=
  .of_wp fun prog w A R s h => by
    obtain ⟨hp, g, d, tk, os⟩ := s; obtain ⟨hl, h⟩ := h
    have hsub := sub_enumerate
    have hL : Heap.IsTuple (Shared.heap ⟨hp, g, d, tk, os⟩) l items := ⟨_, hl, rfl, n, rfl⟩
    wp_walk using wpAny_loadPart' hl
    refine wpAny_stack_any fun st => wpAny_pure ?_
    split
    · rename_i c _ _ _ _ _
      cases (c == Value.type "enumerate")
      · wp_walk using wpAny_loadPart' hl, wpAny_pyIter_tuple hL
        exact ⟨_, rfl, h⟩
      · wp_walk using wpAny_loadPart' hl, wpAny_pyIter_tuple hL
        exact ⟨_, rfl, h⟩
    · wp_walk using wpAny_loadPart' hl, wpAny_pyIter_tuple hL
      exact ⟨_, rfl, h⟩

theorem call_enumerate_tuple {l : Addr} {items : Array Value} {Q : Value → Shared → Prop} (hL : s.heap.IsTuple l items)
    (h : ∀ h', IsEnum h' (s.heap.objs.size + 1) s.heap.objs.size 0 .none → h'.IsTupleIter s.heap.objs.size l 0 → h'.objs.size = s.heap.objs.size + 2 →
      (∀ b o, s.heap.get? b = some o → h'.get? b = some o) → Q (.ref (s.heap.objs.size + 1)) { s with heap := h' }) :
    wpAny (model prog w) A (call (.type "enumerate") [.ref l]) Q E s := by
  obtain ⟨⟨c, dct, dt, sl⟩, hl, hc, n, hd⟩ := hL
  replace hc : c = .type "tuple" := hc
  replace hd : dt = .seq items n := hd
  subst hc hd
  refine callType_new F.called_enumerate (by decide) (F.typeCall_enumerate_1 _) (F.newCall_enumerate_1 _) (fun obj => F.args_object_init_2 obj _) F.entry_enumerate_new
    (meets_enumerate_newT l items n dct sl) ⟨hl, ?_⟩
  have hz : (s.heap.push { cls := .type "tuple_iterator", data := .fields #[.ref l, .int 0 0] }).objs.size = s.heap.objs.size + 1 := Heap.size_push ..
  show _ ∧ _
  rw [hz]
  have he : IsEnum ((s.heap.push { cls := .type "tuple_iterator", data := .fields #[.ref l, .int 0 0] }).push
      { cls := .type "enumerate", data := .fields #[.none, .bool false, .ref s.heap.objs.size, rawInt 0, .none, .none] }) (s.heap.objs.size + 1) s.heap.objs.size 0 .none := by
    have := Heap.get?_push_size (s.heap.push { cls := .type "tuple_iterator", data := .fields #[.ref l, .int 0 0] })
      (o := { cls := .type "enumerate", data := .fields #[.none, .bool false, .ref s.heap.objs.size, rawInt 0, .none, .none] }) rfl
    rw [hz] at this; exact this
  refine ⟨⟨_, he, rfl⟩, h _ he ⟨_, Heap.get?_push_of_some _ (Heap.get?_push_size _ rfl), rfl, rfl⟩ (by rw [Heap.size_push, hz]) fun b o x => Heap.get?_push_of_some _ (Heap.get?_push_of_some _ x)⟩
end

end Mine

namespace Mine
open PySem PySem.W PySem.Calls PyProof.Rows

variable {prog : Program} {w : World} {A : Around} {M : Gh} {s : Shared}

noncomputable def TgOk (two : Bool) (tg : Expr) : Prop := (∃ a b c, tg = .Tuple a b c) ∨ (two = false ∧ ∃ a b, tg = .Name a b)

structure AdvW (C : Pr) (n : Nat) (s s' : Shared) : Prop where
  keep : Kp C s.heap s'.heap
  gens : ∀ i, i < n → s'.gens[i]? = s.gens[i]?
  gsz : s.gens.size ≤ s'.gens.size
  bare : AllBare s.gens → AllBare s'.gens
  os : s'.os = s.os
  toks : s.toks ≤ s'.toks
theorem Adv.toW {C : Pr} {n : Nat} {s s' : Shared} (a : Adv C n s s') : AdvW C n s s' := ⟨a.keep, a.gens, a.gsz, a.bare, a.os, a.toks⟩
theorem AdvW.full {C : Pr} {n : Nat} {s s' : Shared} (a : AdvW C n s s') (h : ∀ b, C b → ∃ o, s'.heap.get? b = some o) : Adv C n s s' :=
  ⟨a.keep, fun b o e => (Classical.em (C b)).elim (fun z => h b z) fun z => ⟨o, a.keep b o z e⟩, a.gens, a.gsz, a.bare, a.os, a.toks⟩
theorem Adv.transW {C W : Pr} {n n' : Nat} {s s' s'' : Shared} (a : Adv C n s s') (b : AdvW W n' s' s'') (hn : n ≤ n') (hw : ∀ x, W x → s.heap.get? x = none) : Adv C n s s'' :=
  ⟨fun x o hx e => b.keep x o (fun q => by rw [hw x q] at e; cases e) (a.keep x o hx e),
   fun x o e => let ⟨o', e'⟩ := a.alive x o e; ⟨o', b.keep x o' (fun q => by rw [hw x q] at e; cases e) e'⟩,
   fun i hi => (b.gens i (Nat.lt_of_lt_of_le hi hn)).trans (a.gens i hi), Nat.le_trans a.gsz b.gsz, fun z => b.bare (a.bare z), b.os.trans a.os, Nat.le_trans a.toks b.toks⟩
theorem AdvW.ext {C : Pr} {n : Nat} {s : Shared} {h : Heap} {a : Addr} {k : Nat} (hC : C a) (hs : Heap.ExtBut a s.heap h) (ht : s.toks ≤ k) : AdvW C n s { s with heap := h, toks := k } :=
  ⟨fun b o hb e => hs b o (fun z => hb (z ▸ hC)) e, fun _ _ => rfl, Nat.le_refl _, id, rfl, ht⟩

structure ItOK (prog : Program) (w : World) (A : Around) (two : Bool) (it : Value) (items : List V) (M : Gh) (W : Pr) (n0 : Nat) (st : Nat → Shared → Prop) : Prop where
  next : ∀ i (s : Shared) v tg (Q : Value → Shared → Prop) (E : Value → Shared → Prop), TgOk two tg → items[i]? = some v → st i s → Al M.m s.heap → 1 ≤ s.toks →
    (∀ x s', Adv W n0 s s' → VR M s'.heap v x → st (i + 1) s' → Q x s') →
    wpAny (model prog w) A (pyNext it) (fun r s₁ => ∃ x, r = some x ∧ wpAny (model prog w) A (letOwnedTupleGo tg it x) (fun _ s₂ => Q x s₂) E s₁) E s
  done : ∀ i (s : Shared) (Q : Option Value → Shared → Prop) (E : Value → Shared → Prop), items[i]? = none → st i s → i ≤ items.length → Al M.m s.heap → 1 ≤ s.toks → (∀ s', AdvW W n0 s s' → Q none s') → wpAny (model prog w) A (pyNext it) Q E s
  self : ∀ i (s : Shared) (Q : Value → Shared → Prop) (E : Value → Shared → Prop), st i s → Q it s → wpAny (model prog w) A (pyIter it) Q E s
  keep : ∀ i (s s' : Shared), st i s → (∀ b o, (W b ∨ ¬ M.m b) → s.heap.get? b = some o → s'.heap.get? b = some o) → st i s'

/-- an iterator that was just made -/
structure ItMade (prog : Program) (w : World) (A : Around) (two : Bool) (vs : List V) (M : Gh) (s : Shared) (it : Value) (W : Pr) (s' : Shared) : Prop where
  adv : AdvE s s'
  fresh : ∀ b, W b → s.heap.get? b = none ∧ ∃ o, s'.heap.get? b = some o
  ok : ∀ M' : Gh, (∀ b, W b → M'.m b) → (∀ b, M'.m b → M.m b ∨ s.heap.get? b = none) → (∀ t u, M.τ t = some u → M'.τ t = some u) → ∃ st, (∀ n0, ItOK prog w A two it vs M' W n0 st) ∧ st 0 s'

theorem owned_name {a : Str} {p : Pos} {it x : Value} : letOwnedTupleGo (.Name a p) it x = pure () := rfl
theorem owned_not {r : Addr} {x : Value} {tg : Expr} {o : Obj} {n : String} {Q : Unit → Shared → Prop} {E : Value → Shared → Prop} (ht : TgOk false tg) (ho : s.heap.get? r = some o) (hc : o.cls = .type n)
    (hn : ["enumerate", "zip", "dict_itemiterator", "dict_reverseitemiterator", "odict_iterator", "itertools.zip_longest", "itertools.pairwise"].contains n = false) (hQ : Q () s) :
    wpAny (model prog w) A (letOwnedTupleGo tg (.ref r) x) Q E s := by
  rcases ht with ⟨a, b, c, rfl⟩ | ⟨_, a, b, rfl⟩
  · unfold letOwnedTupleGo
    cases x with
    | ref a =>
      refine wpAny_bind (wpAny_load ho ?_)
      rw [hc]
      split
      · rename_i n' vs hn' _
        cases hn'
        rw [hn]
        exact wpAny_pure hQ
      · exact wpAny_pure hQ
    | _ => exact wpAny_pure hQ
  · exact wpAny_pure hQ

theorem Adv.of {C : Pr} {n : Nat} {h : Heap} {k : Nat} (hk : Kp C s.heap h) (ha : ∀ b o, s.heap.get? b = some o → ∃ o', h.get? b = some o') (ht : s.toks ≤ k) : Adv C n s { s with heap := h, toks := k } :=
  ⟨hk, ha, fun _ _ => rfl, Nat.le_refl _, id, rfl, ht⟩
theorem Adv.same {C : Pr} {n : Nat} {h : Heap} {a : Addr} {k : Nat} (hC : C a) (hs : Heap.SameBut a s.heap h) (hl : ∃ o, h.get? a = some o) (ht : s.toks ≤ k) : Adv C n s { s with heap := h, toks := k } :=
  Adv.of (fun b o hb e => (hs.2 b (fun z => hb (z ▸ hC))).trans e) (fun b o e => by
    by_cases hb : b = a
    · rw [hb]; exact hl
    · exact ⟨o, (hs.2 b hb).trans e⟩) ht
theorem live_size {h : Heap} {a : Addr} : (∃ o, h.get? a = some o) ∨ h.get? a = none := by
  cases h.get? a with
  | none => exact Or.inr rfl
  | some o => exact Or.inl ⟨o, rfl⟩
theorem VRs.live {M : Gh} {h : Heap} {v : V} {x : Value} {vs : List V} (e : seqOf v = some vs) (r : VR M h v x) : ∃ a, x = .ref a ∧ ∃ o, h.get? a = some o := by
  obtain ⟨a, it, rfl, ⟨n, l⟩, _⟩ := r.list e
  exact ⟨a, rfl, _, l⟩

/-- how M' of an iterator reads -/
theorem not_in {M M' : Gh} {h : Heap} {a : Addr} {o : Obj} (hM : ¬ M.m a) (ho : h.get? a = some o) (hf : ∀ b, M'.m b → M.m b ∨ h.get? b = none) : ¬ M'.m a := fun z => (hf a z).elim hM fun q => by rw [q] at ho; cases ho

/-! over a list -/
theorem ListIter.stable {h h' : Heap} {I l : Addr} {i : Nat} (x : h.IsListIter I l i) (hk : ∀ o, h.get? I = some o → h'.get? I = some o) : h'.IsListIter I l i := let ⟨o, ho, r⟩ := x; ⟨o, hk o ho, r⟩
theorem TupIter.stable {h h' : Heap} {I l : Addr} {i : Nat} (x : h.IsTupleIter I l i) (hk : ∀ o, h.get? I = some o → h'.get? I = some o) : h'.IsTupleIter I l i := let ⟨o, ho, r⟩ := x; ⟨o, hk o ho, r⟩

theorem VRs.kp {M : Gh} {h h' : Heap} {vs : List V} {xs : List Value} (hp : plains vs = true) (r : VRs M h vs xs) (hk : Kp M.m h h') : VRs M h' vs xs := VRs.but hk hp r

theorem ItOK.walks {I : Addr} {fp : List Addr} {n n0 : Nat} {P : Nat → Value → Prop} {St : Nat → Heap → Prop} {items : List V} {M : Gh} {W : Pr} {Rel : Heap → Prop}
    (K : Walks prog w A I fp [I] n P St)
    (hcls : ∀ i h, St i h → ∃ o nm, h.get? I = some o ∧ o.cls = .type nm ∧ ["enumerate", "zip", "dict_itemiterator", "dict_reverseitemiterator", "odict_iterator", "itertools.zip_longest", "itertools.pairwise"].contains nm = false)
    (hlen : items.length = n) (hrel : ∀ h h', Rel h → Kp M.m h h' → Rel h') (hP : ∀ i v x h, items[i]? = some v → P i x → Rel h → VR M h v x)
    (hfp : ∀ b ∈ fp, W b ∨ ¬ M.m b) (hW : W I) (hWM : ∀ b, W b → M.m b) : ItOK prog w A false (.ref I) items M W n0 (fun i s => St i s.heap ∧ Rel s.heap) where
  next := fun i s v tg Q E ht hi st hM h1 hQ => by
    have hlt : i < n := by rw [← hlen]; exact (List.getElem?_eq_some_iff.mp hi).1
    refine wpAny_with_toks (Nat.le_refl s.toks) (K.item i s _ _ hlt st.1 fun x h' tk hPx hst hk ht' => ⟨x, rfl, ?_⟩)
    obtain ⟨o, nm, ho, hc, hn⟩ := hcls _ _ hst
    have hkp : Kp W s.heap h' := fun b o hb e => hk b o (fun hm => by simp at hm; exact hb (hm ▸ hW)) e
    have hr : Rel h' := hrel _ _ st.2 fun b o hb e => hkp b o (fun z => hb (hWM b z)) e
    have hx : wpAny (model prog w) A (letOwnedTupleGo tg (.ref I) x) (fun _ s₂ => Q x s₂) E ({ s with heap := h', toks := tk } : Shared) := by
      refine owned_not ht ho hc hn (hQ x _ (Adv.of hkp (fun b o e => ?_) ht') (hP _ _ _ _ hi hPx hr) ⟨hst, hr⟩)
      by_cases hb : b = I
      · rw [hb]; exact ⟨_, ho⟩
      · exact ⟨o, hk b o (by simpa using hb) e⟩
    exact hx
  done := fun i s Q E hi st hle hM h1 hQ => by
    have hlt : i = n := by rw [← hlen]; exact Nat.le_antisymm hle (List.getElem?_eq_none_iff.mp hi)
    subst hlt
    refine wpAny_with_toks (Nat.le_refl s.toks) (K.done s _ _ st.1 fun h' tk hk ht => hQ _ ?_)
    exact ⟨fun b o hb e => hk b o (fun hm => by simp at hm; exact hb (hm ▸ hW)) e, fun _ _ => rfl, Nat.le_refl _, id, rfl, ht⟩
  self := fun i s Q E st hQ => K.self i s Q E st.1 hQ
  keep := fun i s s' st hk => ⟨K.frame i _ _ st.1 fun b hb o e => hk b o (hfp b hb) e, hrel _ _ st.2 fun b o hb e => hk b o (Or.inr hb) e⟩

theorem ItOK.enum {e it : Addr} {fp : List Addr} {n n0 : Nat} {P : Nat → Value → Prop} {St : Nat → Heap → Prop} {vs : List V} {items : List V} {M : Gh} {W : Pr} {Rel : Heap → Prop}
    (D : Draws prog w A.in1 it fp n P St) (hlen : vs.length = n) (hitems : items = vs.zipIdx.map fun c => V.tup [.int c.2, c.1])
    (hrel : ∀ h h', Rel h → Kp M.m h h' → Rel h') (hP : ∀ i v x h, vs[i]? = some v → P i x → Rel h → VR M h v x)
    (hfp : ∀ b ∈ fp, W b ∨ ¬ M.m b) (hW : W it) (hWe : W e) (hWM : ∀ b, W b → M.m b) (hne : e ≠ it) (hef : e ∉ fp) :
    ItOK prog w A true (.ref e) items M W n0 (fun i s => (∃ old, IsEnum s.heap e it i old) ∧ St i s.heap ∧ Rel s.heap) where
  next := fun i s v tg Q E ht hi st hM h1 hQ => by
    obtain ⟨⟨old, he⟩, hst, hr⟩ := st
    subst hitems
    rw [List.getElem?_map, Option.map_eq_some_iff] at hi
    obtain ⟨⟨u, j⟩, hi, rfl⟩ := hi
    rw [List.getElem?_zipIdx, Option.map_eq_some_iff] at hi
    obtain ⟨u', hu, huj⟩ := hi
    cases huj
    simp only [Nat.zero_add] at hQ
    have hlt : i < n := by rw [← hlen]; exact (List.getElem?_eq_some_iff.mp hu).1
    obtain ⟨a1, a2, a3, rfl⟩ : ∃ a b c, tg = .Tuple a b c := by
      rcases ht with h | ⟨h, _⟩
      · exact h
      · cases h
    refine wpAny_with_toks (Nat.le_refl s.toks) (wpAny_pyNext_enum_itemD D he hst hlt hne hef fun x h' tk hPx heo hst' hT hz hk ht' => ⟨_, rfl, ?_⟩)
    refine wpAny_letOwnedTupleGo_enum heo fun h₂ he₂ hs₂ => ?_
    replace hs₂ : Heap.SameBut e h' h₂ := hs₂
    replace he₂ : IsEnum h₂ e it ((i : Int) + 1) x := he₂
    have heH : e < s.heap.objs.size := Heap.lt_size he
    have hkp : Kp W s.heap h₂ := fun b o hb eo => by
      have hbe : b ≠ e := fun z => hb (z ▸ hWe)
      exact (hs₂.2 b hbe).trans (hk b o hbe (fun z => hb (z ▸ hW)) eo)
    have hr₂ : Rel h₂ := hrel _ _ hr fun b o hb eo => hkp b o (fun z => hb (hWM b z)) eo
    have hst₂ : St (i + 1) h₂ := D.frame _ _ _ hst' fun b hb o eo => (hs₂.2 b (fun z => hef (z ▸ hb))).trans eo
    have hT₂ : h₂.get? s.heap.objs.size = some { cls := .type "tuple", data := .seq #[.int i tk, x] } := (hs₂.2 _ (Nat.ne_of_gt heH)).trans hT
    refine hQ _ _ (Adv.of (k := tk + 1) hkp (fun b o eo => ?_) ht') ⟨s.heap.objs.size, _, rfl, hM.fresh, ⟨0, hT₂⟩, _, _, rfl, ⟨tk, rfl⟩, _, _, rfl, hP _ _ _ _ hu hPx hr₂, rfl⟩ ⟨⟨x, ?_⟩, hst₂, hr₂⟩
    · by_cases hbe : b = e
      · rw [hbe]; exact ⟨_, he₂⟩
      · by_cases hbi : b = it
        · rw [hbi]; exact D.live _ _ hst₂
        · exact ⟨o, (hs₂.2 b hbe).trans (hk b o hbe hbi eo)⟩
    · show IsEnum h₂ e it ((i + 1 : Nat) : Int) x
      push_cast; exact he₂
  done := fun i s Q E hi st hle hM h1 hQ => by
    obtain ⟨⟨old, he⟩, hst, hr⟩ := st
    have hl2 : items.length = n := by rw [hitems, List.length_map, List.length_zipIdx]; exact hlen
    have hlt : i = n := by rw [← hl2]; exact Nat.le_antisymm hle (List.getElem?_eq_none_iff.mp hi)
    subst hlt
    exact wpAny_pyNext_enum_endD D he hst fun h' hk => hQ _ (AdvW.ext (k := s.toks) hW hk (Nat.le_refl _))
  self := fun i s Q E st hQ => let ⟨⟨old, he⟩, _⟩ := st; wpAny_pyIter_enum he hQ
  keep := fun i s s' st hk => by
    obtain ⟨⟨old, he⟩, hst, hr⟩ := st
    exact ⟨⟨old, hk _ _ (Or.inl hWe) he⟩, D.frame _ _ _ hst fun b hb o eo => hk b o (hfp b hb) eo, hrel _ _ hr fun b o hb eo => hk b o (Or.inr hb) eo⟩

theorem plains_get {vs : List V} {i : Nat} {v : V} (hp : plains vs = true) (h : vs[i]? = some v) : v.plain = true := by
  induction vs generalizing i with
  | nil => cases h
  | cons x xs ih =>
    have hp' : x.plain = true ∧ plains xs = true := by simpa [plains] using hp
    cases i with
    | zero => cases h; exact hp'.1
    | succ i => exact ih hp'.2 (by simpa using h)
theorem VRs.lessA {M M' : Gh} {h : Heap} (hm : ∀ b, M'.m b → M.m b ∨ h.get? b = none) (ht : ∀ t u, M.τ t = some u → M'.τ t = some u) {vs : List V} {xs : List Value} (hp : plains vs = true) (r : VRs M h vs xs) : VRs M' h vs xs := VRs.less hm ht hp r
theorem VRs.at {M : Gh} {h : Heap} {vs : List V} {items : Array Value} {i : Nat} {v : V} {x : Value} (r : VRs M h vs items.toList) (hv : vs[i]? = some v) (hx : items[i]? = some x) : VR M h v x := by
  obtain ⟨y, hy, q⟩ := VRs.get r hv
  rw [Array.getElem?_toList, hx] at hy
  cases hy; exact q

theorem less_none {M M' : Gh} {s s' : Shared} (hM' : ∀ b, M'.m b → M.m b ∨ s.heap.get? b = none) (ht : ∀ t u, M.τ t = some u → M'.τ t = some u) {vs : List V} {xs : List Value} (hp : plains vs = true) (r : VRs M s.heap vs xs) (ha : AdvE s s') : VRs M' s'.heap vs xs :=
  VRs.keep ha.st (VRs.less hM' ht hp r)

theorem iter_ev (hh : A.handled = none) {v : V} {vs : List V} {x : Value} (ev : iterV v = some vs) (hM : Al M.m s.heap) (r : VR M s.heap v x) (Q E : Value → Shared → Prop)
    (h : ∀ it W s', ItMade prog w A false vs M s it W s' → Q it s') : wpAny (model prog w) A (pyIter x) Q E s := by
  have one : ∀ (o : Obj), ∀ b, b = s.heap.objs.size → s.heap.get? b = none ∧ ∃ o', (s.heap.push o).get? b = some o' ∨ True := fun o b hb => ⟨by rw [hb]; exact fresh_none _ (Nat.le_refl _), o, Or.inr trivial⟩
  cases v <;> simp [iterV] at ev
  · rename_i n z
    subst ev
    obtain ⟨t, rfl, _⟩ := r
    refine wpAny_pyIter_strU (h _ (fun b => b = s.heap.objs.size) _ ⟨AdvE.push, fun b hb => ⟨by rw [hb]; exact fresh_none _ (Nat.le_refl _), by rw [hb]; exact ⟨_, Heap.get?_push_size _ rfl⟩⟩, fun M' hW hM' hτ => ?_⟩)
    have hl : (z.cps.toList.map fun c => V.str false ⟨#[c]⟩).length = z.cps.size := by simp
    have hP : ∀ (i : Nat) (v : V) (x : Value) (h : Heap), (z.cps.toList.map fun c => V.str false ⟨#[c]⟩)[i]? = some v → SignAt z i x → True → VR M' h v x := fun i v x h hv ⟨c, u, hc, hx⟩ _ => by
      rw [List.getElem?_map, Option.map_eq_some_iff] at hv
      obtain ⟨c', hc', rfl⟩ := hv
      rw [Array.getElem?_toList, hc] at hc'
      cases hc'
      exact ⟨u, hx, fun z => nomatch z⟩
    cases ha : z.cps.all (· < 128)
    · have e : strIterType z = "str_iterator" := by simp [strIterType, ha]
      rw [e]
      exact ⟨_, fun n0 => ItOK.walks (Rel := fun _ => True) (Walks.strWide hh _ z t) (fun i h ⟨o, ho, hc, _⟩ => ⟨o, _, ho, hc, by decide⟩) hl (fun _ _ _ _ => trivial) hP (fun b hb => by simp at hb; exact Or.inl hb) rfl hW, ⟨_, Heap.get?_push_size _ rfl, rfl, rfl⟩, trivial⟩
    · have e : strIterType z = "str_ascii_iterator" := by simp [strIterType, ha]
      rw [e]
      exact ⟨_, fun n0 => ItOK.walks (Rel := fun _ => True) (Walks.strAscii hh _ z t) (fun i h ⟨o, ho, hc, _⟩ => ⟨o, _, ho, hc, by decide⟩) hl (fun _ _ _ _ => trivial) hP (fun b hb => by simp at hb; exact Or.inl hb) rfl hW, ⟨_, Heap.get?_push_size _ rfl, rfl, rfl⟩, trivial⟩
  · obtain ⟨hp, rfl⟩ := ev
    obtain ⟨l, items, rfl, hm, ⟨nl, hlo⟩, rs⟩ := r
    have hlt := Heap.lt_size hlo
    have hz := VRs.size rs
    refine wpAny_pyIter_tuple (PT.tuple ⟨nl, hlo⟩) (h _ (fun b => b = s.heap.objs.size) _ ⟨AdvE.push, fun b hb => ⟨by rw [hb]; exact fresh_none _ (Nat.le_refl _), by rw [hb]; exact ⟨_, Heap.get?_push_size _ rfl⟩⟩, fun M' hW hM' hτ => ?_⟩)
    refine ⟨_, fun n0 => ItOK.walks (Rel := fun h => VRs M' h _ items.toList) (Walks.tuple hh _ l (Nat.ne_of_lt hlt) items) (fun i h ⟨⟨o, ho, hc, _⟩, _⟩ => ⟨o, _, ho, hc, by decide⟩) hz.symm (fun _ _ r hk => VRs.but hk hp r) (fun i v x h hv hx r => VRs.at r hv hx)
      (fun b hb => ?_) rfl hW, ⟨⟨_, Heap.get?_push_size _ rfl, rfl, rfl⟩, ?_⟩, less_none hM' hτ hp rs AdvE.push⟩
    · simp at hb
      rcases hb with rfl | rfl
      · exact Or.inl rfl
      · exact Or.inr (not_in hm hlo hM')
    · exact PT.tuple ⟨nl, Heap.get?_push_of_some _ hlo⟩
  · obtain ⟨hp, rfl⟩ := ev
    obtain ⟨l, items, rfl, hm, ⟨nl, hlo⟩, rs⟩ := r
    have hlt := Heap.lt_size hlo
    have hz := VRs.size rs
    refine wpAny_pyIter_list (Heap.PlainList.isList ⟨nl, hlo⟩) (h _ (fun b => b = s.heap.objs.size) _ ⟨AdvE.push, fun b hb => ⟨by rw [hb]; exact fresh_none _ (Nat.le_refl _), by rw [hb]; exact ⟨_, Heap.get?_push_size _ rfl⟩⟩, fun M' hW hM' hτ => ?_⟩)
    refine ⟨_, fun n0 => ItOK.walks (Rel := fun h => VRs M' h _ items.toList) (Walks.list hh _ l (Nat.ne_of_lt hlt) items) (fun i h ⟨⟨o, ho, hc, _⟩, _⟩ => ⟨o, _, ho, hc, by decide⟩) hz.symm (fun _ _ r hk => VRs.but hk hp r) (fun i v x h hv hx r => VRs.at r hv hx)
      (fun b hb => ?_) rfl hW, ⟨⟨_, Heap.get?_push_size _ rfl, rfl, rfl⟩, ?_⟩, less_none hM' hτ hp rs AdvE.push⟩
    · simp at hb
      rcases hb with rfl | rfl
      · exact Or.inl rfl
      · exact Or.inr (not_in hm hlo hM')
    · exact Heap.PlainList.isList ⟨nl, Heap.get?_push_of_some _ hlo⟩

theorem range_iter (hh : A.handled = none) {n : Int} {t : Tok} (hn : smallI n = true) (hM : Al M.m s.heap) (Q E : Value → Shared → Prop)
    (h : ∀ it W s', ItMade prog w A false ((List.range n.toNat).map fun i : Nat => V.int i) M s it W s' → Q it s') :
    wpAny (model prog w) A (call (.type "range") [.int n t]) (fun x s₁ => wpAny (model prog w) A (pyIter x) Q E s₁) E s := by
  simp only [smallI, Bool.and_eq_true, decide_eq_true_eq] at hn
  refine call_range_1 (wpAny_pyIter_range (r := s.heap.objs.size) (a := 0) (b := n) (c := 1) (Heap.get?_push_size _ rfl) ?_ ?_)
  · exact small_one (by lia) (by lia) (by lia) (by lia)
  · have hz : ∀ o, (s.heap.push o).objs.size = s.heap.objs.size + 1 := fun o => Heap.size_push ..
    have hne : s.heap.objs.size + 1 ≠ s.heap.objs.size := by lia
    have e : Builtin.Range.rangeSize 0 n 1 = ((n.toNat : Nat) : Int) := by unfold Builtin.Range.rangeSize; simp; split <;> lia
    rw [e]
    refine h _ (fun b => b = (s.heap.push { cls := .type "range", data := .fields #[.int 0 s.toks, .int n t, .int 1 (s.toks + 1)] }).objs.size) _ ⟨?_, fun b hb => ⟨?_, ?_⟩, fun M' hW hM' hτ => ?_⟩
    · exact AdvE.of (k := s.toks + 1 + 1) (fun b o e => Heap.get?_push_of_some _ (Heap.get?_push_of_some _ e)) (by lia)
    · rw [hb, hz]; exact fresh_none _ (Nat.le_succ _)
    · rw [hb]; exact ⟨_, Heap.get?_push_size _ rfl⟩
    · refine ⟨_, fun n0 => ItOK.walks (Rel := fun h => True) (Walks.range hh _ 0 1 n.toNat) (fun i h hr => ⟨_, _, hr, rfl, by decide⟩) (by simp) (fun _ _ _ _ => trivial) (fun i v x h hv hx _ => ?_) (fun b hb => Or.inl (List.mem_singleton.mp hb)) rfl hW, ?_, trivial⟩
      · rw [List.getElem?_map, Option.map_eq_some_iff] at hv
        obtain ⟨j, hj, rfl⟩ := hv
        rw [List.getElem?_range (by have := (List.getElem?_eq_some_iff.mp hj).1; simpa using this)] at hj
        cases hj
        obtain ⟨u, rfl⟩ := hx
        exact ⟨u, by simp⟩
      · have := Heap.get?_push_size (s.heap.push { cls := .type "range", data := .fields #[.int 0 s.toks, .int n t, .int 1 (s.toks + 1)] }) (o := { cls := .type "range_iterator", data := .fields #[rawInt 0, rawInt n.toNat, rawInt 1] }) rfl
        show IsRangeIter _ _ _ _ _
        simpa using this

theorem enum_iter {v : V} {vs : List V} {x : Value} (ev : enumV v = some vs) (hM : Al M.m s.heap) (r : VR M s.heap v x) (Q E : Value → Shared → Prop)
    (h : ∀ it W s', (∀ A₂ : Around, A₂.handled = none → ItMade prog w A₂ true vs M s it W s') → Q it s') :
    wpAny (model prog w) A (call (.type "enumerate") [x]) (fun x s₁ => wpAny (model prog w) A (pyIter x) Q E s₁) E s := by
  have hz1 : s.heap.objs.size + 1 ≠ s.heap.objs.size := by lia
  have hfr : ∀ b, (b = s.heap.objs.size ∨ b = s.heap.objs.size + 1) → s.heap.get? b = none := fun b hb => by
    rcases hb with rfl | rfl
    · exact fresh_none _ (Nat.le_refl _)
    · exact fresh_none _ (Nat.le_succ _)
  have made : ∀ (h' : Heap) (fp : List Addr) (n : Nat) (P : Nat → Value → Prop) (St : Nat → Heap → Prop) (us : List V) (Rel : Gh → Heap → Prop),
      IsEnum h' (s.heap.objs.size + 1) s.heap.objs.size 0 .none → (∃ o, h'.get? s.heap.objs.size = some o) → (∀ b o, s.heap.get? b = some o → h'.get? b = some o) →
      (∀ A₂ : Around, A₂.handled = none → Draws prog w A₂.in1 s.heap.objs.size fp n P St) → us.length = n → vs = us.zipIdx.map (fun c => V.tup [.int c.2, c.1]) → s.heap.objs.size + 1 ∉ fp → St 0 h' →
      (∀ M' : Gh, (∀ b, M'.m b → M.m b ∨ s.heap.get? b = none) → (∀ t u, M.τ t = some u → M'.τ t = some u) → (∀ b ∈ fp, b = s.heap.objs.size ∨ ¬ M'.m b) ∧ (∀ h h', Rel M' h → Kp M'.m h h' → Rel M' h') ∧ (∀ i v x h, us[i]? = some v → P i x → Rel M' h → VR M' h v x) ∧ Rel M' h') →
      wpAny (model prog w) A (pyIter (.ref (s.heap.objs.size + 1))) Q E { s with heap := h' } := by
    intro h' fp n P St us Rel he hit hk D hlen hvs hef hst hM'
    refine wpAny_pyIter_enum he (h _ (fun b => b = s.heap.objs.size ∨ b = s.heap.objs.size + 1) _ fun A₂ hh₂ => ⟨AdvE.heap hk, fun b hb => ⟨hfr b hb, ?_⟩, fun M' hW hf hτ => ?_⟩)
    · rcases hb with rfl | rfl
      · exact hit
      · exact ⟨_, he⟩
    · obtain ⟨h1, h2, h3, h4⟩ := hM' M' hf hτ
      exact ⟨_, fun n0 => ItOK.enum (Rel := Rel M') (D A₂ hh₂) hlen hvs h2 h3 (fun b hb => (h1 b hb).elim (fun z => Or.inl (Or.inl z)) Or.inr) (Or.inl rfl) (Or.inr rfl) hW hz1 hef, ⟨_, he⟩, hst, h4⟩
  cases v <;> simp [enumV] at ev
  · rename_i n z
    subst ev
    obtain ⟨t, rfl, _⟩ := r
    refine call_enumerate_str fun h' he hit hz hk => ?_
    have hP : ∀ (M' : Gh) (i : Nat) (v : V) (x : Value) (h : Heap), (z.cps.toList.map fun c => V.str false ⟨#[c]⟩)[i]? = some v → (∃ c u, z.cps[i]? = some c ∧ x = .str ⟨#[c]⟩ u) → True → VR M' h v x := fun M' i v x h hv ⟨c, u, hc, hx⟩ _ => by
      rw [List.getElem?_map, Option.map_eq_some_iff] at hv
      obtain ⟨c', hc', rfl⟩ := hv
      rw [Array.getElem?_toList, hc] at hc'
      cases hc'
      exact ⟨u, hx, fun z => nomatch z⟩
    have hvs : (z.cps.toList.zipIdx.map fun c => V.tup [.int c.2, .str false ⟨#[c.1]⟩]) = (z.cps.toList.map fun c => V.str false ⟨#[c]⟩).zipIdx.map fun c => V.tup [.int c.2, c.1] := by
      rw [List.zipIdx_map, List.map_map]; rfl
    have hm : ∀ M' : Gh, (∀ b, M'.m b → M.m b ∨ s.heap.get? b = none) → (∀ t u, M.τ t = some u → M'.τ t = some u) → (∀ b ∈ [s.heap.objs.size], b = s.heap.objs.size ∨ ¬ M'.m b) ∧ (∀ h h' : Heap, (fun _ _ => True : Gh → Heap → Prop) M' h → Kp M'.m h h' → (fun _ _ => True : Gh → Heap → Prop) M' h') ∧ (∀ i v x h, (z.cps.toList.map fun c => V.str false ⟨#[c]⟩)[i]? = some v → (∃ c u, z.cps[i]? = some c ∧ x = .str ⟨#[c]⟩ u) → (fun _ _ => True : Gh → Heap → Prop) M' h → VR M' h v x) ∧ (fun _ _ => True : Gh → Heap → Prop) M' h' :=
      fun M' _ _ => ⟨fun b hb => Or.inl (List.mem_singleton.mp hb), fun _ _ _ _ => trivial, hP M', trivial⟩
    cases ha : z.cps.all (· < 128)
    · have e : strIterType z = "str_iterator" := by simp [strIterType, ha]
      rw [e] at hit
      exact made h' [s.heap.objs.size] z.cps.size _ _ (z.cps.toList.map fun c => V.str false ⟨#[c]⟩) (fun _ _ => True) he (let ⟨o, ho, _⟩ := hit; ⟨o, ho⟩) hk (fun A₂ hh₂ => Draws.strWide (A := A₂.in1) hh₂ _ z t) (by simp) hvs (by simp) hit hm
    · have e : strIterType z = "str_ascii_iterator" := by simp [strIterType, ha]
      rw [e] at hit
      exact made h' [s.heap.objs.size] z.cps.size _ _ (z.cps.toList.map fun c => V.str false ⟨#[c]⟩) (fun _ _ => True) he (let ⟨o, ho, _⟩ := hit; ⟨o, ho⟩) hk (fun A₂ hh₂ => Draws.strAscii (A := A₂.in1) hh₂ _ z t) (by simp) hvs (by simp) hit hm
  · obtain ⟨hp, rfl⟩ := ev
    obtain ⟨l, items, rfl, hm, ⟨nl, hlo⟩, rs⟩ := r
    have hlt := Heap.lt_size hlo
    have hz := VRs.size rs
    refine call_enumerate_tuple (PT.tuple ⟨nl, hlo⟩) fun h' he hit hzz hk => ?_
    refine made h' [s.heap.objs.size, l] items.size _ _ _ (fun M' h => VRs M' h _ items.toList) he (let ⟨o, ho, _⟩ := hit; ⟨o, ho⟩) hk (fun A₂ hh₂ => draws_tuple (A := A₂.in1) hh₂ _ l (Nat.ne_of_lt hlt) items) hz.symm rfl ?_ ⟨hit, PT.tuple ⟨nl, hk _ _ hlo⟩⟩ fun M' hf hτ => ⟨fun b hb => ?_, fun _ _ r hk => VRs.but hk hp r, fun i v x h hv hx r => VRs.at r hv hx, less_none hf hτ hp rs (AdvE.heap hk)⟩
    · intro hm; rcases List.mem_cons.mp hm with e | hm
      · exact hz1 e
      · have e := List.mem_singleton.mp hm; rw [← e] at hlt; exact absurd hlt (Nat.not_lt.mpr (Nat.le_succ _))
    · simp at hb
      rcases hb with rfl | rfl
      · exact Or.inl rfl
      · exact Or.inr (not_in hm hlo hf)
  · obtain ⟨hp, rfl⟩ := ev
    obtain ⟨l, items, rfl, hm, ⟨nl, hlo⟩, rs⟩ := r
    have hlt := Heap.lt_size hlo
    have hz := VRs.size rs
    refine call_enumerate_list (Heap.PlainList.isList ⟨nl, hlo⟩) fun h' he hit hzz hk => ?_
    refine made h' [s.heap.objs.size, l] items.size _ _ _ (fun M' h => VRs M' h _ items.toList) he (let ⟨o, ho, _⟩ := hit; ⟨o, ho⟩) hk (fun A₂ hh₂ => Draws.list (A := A₂.in1) hh₂ _ l (Nat.ne_of_lt hlt) items) hz.symm rfl ?_ ⟨hit, Heap.PlainList.isList ⟨nl, hk _ _ hlo⟩⟩ fun M' hf hτ => ⟨fun b hb => ?_, fun _ _ r hk => VRs.but hk hp r, fun i v x h hv hx r => VRs.at r hv hx, less_none hf hτ hp rs (AdvE.heap hk)⟩
    · intro hm; rcases List.mem_cons.mp hm with e | hm
      · exact hz1 e
      · have e := List.mem_singleton.mp hm; rw [← e] at hlt; exact absurd hlt (Nat.not_lt.mpr (Nat.le_succ _))
    · simp at hb
      rcases hb with rfl | rfl
      · exact Or.inl rfl
      · exact Or.inr (not_in hm hlo hf)

/-- iterators that may come to hold more -/
structure ItG (prog : Program) (w : World) (A : Around) (G : Heap → Prop) (two : Bool) (it : Value) (items : List V) (M : Gh) (n0 : Nat) (st : Pr → Nat → Shared → Prop) : Prop where
  next : ∀ (W : Pr) i (s : Shared) v tg (Q : Value → Shared → Prop) (E : Value → Shared → Prop), TgOk two tg → items[i]? = some v → st W i s → Al M.m s.heap → Al W s.heap → G s.heap → 1 ≤ s.toks →
    (∀ x s' W', (∀ b, W' b → W b ∨ s.heap.get? b = none) → Al W' s'.heap → AdvW W n0 s s' → VR ⟨fun b => M.m b ∨ W' b, M.τ⟩ s'.heap v x → st W' (i + 1) s' → Q x s') →
    wpAny (model prog w) A (pyNext it) (fun r s₁ => ∃ x, r = some x ∧ wpAny (model prog w) A (letOwnedTupleGo tg it x) (fun _ s₂ => Q x s₂) E s₁) E s
  done : ∀ (W : Pr) i (s : Shared) (Q : Option Value → Shared → Prop) (E : Value → Shared → Prop), items[i]? = none → st W i s → i ≤ items.length → Al M.m s.heap → Al W s.heap → G s.heap → 1 ≤ s.toks → (∀ s', AdvW W n0 s s' → Q none s') → wpAny (model prog w) A (pyNext it) Q E s
  keep : ∀ (W : Pr) i (s s' : Shared), st W i s → (∀ b o, (W b ∨ ¬ M.m b) → s.heap.get? b = some o → s'.heap.get? b = some o) → (∀ j, j < s.gens.size → s'.gens[j]? = s.gens[j]?) → s.gens.size ≤ s'.gens.size → st W i s'

structure GenMade (prog : Program) (w : World) (A : Around) (G : Heap → Prop) (two : Bool) (vs : List V) (M : Gh) (s : Shared) (it : Value) (W : Pr) (s' : Shared) : Prop where
  adv : AdvE s s'
  fresh : ∀ b, W b → s.heap.get? b = none ∧ ∃ o, s'.heap.get? b = some o
  ok : ∃ st, ItG prog w A G two it vs M s.gens.size st ∧ st W 0 s'

theorem ItMade.gen {G : Heap → Prop} {two : Bool} {vs : List V} {M : Gh} {s s' : Shared} {it : Value} {W : Pr} (hal : Al M.m s.heap) (im : ItMade prog w A two vs M s it W s') : GenMade prog w A G two vs M s it W s' := by
  refine ⟨im.adv, im.fresh, ?_⟩
  obtain ⟨st, K, st0⟩ := im.ok ⟨fun b => M.m b ∨ W b, M.τ⟩ (fun b hb => Or.inr hb) (fun b hb => hb.elim Or.inl fun z => Or.inr (im.fresh b z).1) (fun _ _ e => e)
  have hdis : ∀ b, M.m b → ¬ W b := fun b hb hw => by
    obtain ⟨o, ho⟩ := hal b hb
    rw [(im.fresh b hw).1] at ho; cases ho
  refine ⟨fun W' i s => W' = W ∧ st i s, ⟨fun W' i s v tg Q E ht hi hst hM hW hg h1 hQ => ?_, fun W' i s Q E hi hst hle hM hW hg h1 hQ => ?_, fun W' i s s' hst hk hg hz => ⟨hst.1, (K 0).keep i s s' hst.2 (fun b o hb e => hk b o (hb.elim (fun z => Or.inl (hst.1 ▸ z)) fun z => Or.inr fun q => z (Or.inl q)) e)⟩⟩, rfl, st0⟩
  · obtain ⟨rfl, hst⟩ := hst
    have hal' : Al (fun b => M.m b ∨ W' b) s.heap := fun b hb => hb.elim (hM b) (hW b)
    exact (K _).next i s v tg Q E ht hi hst hal' h1 fun x s' a r hst' => hQ x s' W' (fun b hb => Or.inl hb) (hW.adv a) a.toW r ⟨rfl, hst'⟩
  · obtain ⟨rfl, hst⟩ := hst
    have hal' : Al (fun b => M.m b ∨ W' b) s.heap := fun b hb => hb.elim (hM b) (hW b)
    exact (K _).done i s Q E hi hst hle hal' h1 hQ

end Mine

namespace Mine
open PySem PySem.W PySem.Calls PyProof.Rows

noncomputable abbrev Nms := List (Str × NameKind)

/-- what the whole walk keeps, and what the functions known so far compute -/
structure Cx (prog : Program) (w : World) where
  K : Kx
  Old : Pr
  gl : Addr
  bl : Addr
  d : Nat
  G : Heap → Prop
  stay : ∀ h h', G h → (∀ b o, Old b → h.get? b = some o → h'.get? b = some o) → G h'
  live : ∀ h, G h → ∀ b, Old b → ∃ o, h.get? b = some o
  share : ∀ h, G h → ∃ mc, h.Ns cStatics mc ∧ mc sharingNotToldKey = none
  gname : ∀ id v, K.glob id = some v → ∀ (M : Gh) A env s, env.globals = gl → env.builtins = bl → G s.heap → EvAt0 prog w A M (loadGlobal env id) v s
  bi : ∀ id, id ∈ (["len", "min", "max", "sum", "sorted"] : List Str) → ∀ A env (s : Shared) (Q E : Value → Shared → Prop), env.globals = gl → env.builtins = bl → G s.heap → Q (.builtin (biName id)) s → wpAny (model prog w) A (loadGlobal env id) Q E s
  ty : ∀ id, id ∈ (["range", "enumerate"] : List Str) → ∀ A env (s : Shared) (Q E : Value → Shared → Prop), env.globals = gl → env.builtins = bl → G s.heap → Q (.type (if id == ("range" : Str) then "range" else "enumerate")) s → wpAny (model prog w) A (loadGlobal env id) Q E s
  fn : ∀ id vs v, K.F id vs = some v → ∃ a, (∀ h, G h → ∃ o fd, h.get? a = some o ∧ o.data = .func fd) ∧
    (∀ A env (s : Shared) (Q E : Value → Shared → Prop), env.globals = gl → env.builtins = bl → G s.heap → Q (.ref a) s → wpAny (model prog w) A (loadGlobal env id) Q E s) ∧
    (∀ A (s : Shared) (M : Gh) xs, RM A d → plains vs = true → G s.heap → 1 ≤ s.toks → Tb M s.toks → Al M.m s.heap → VRs M s.heap vs xs → EvAt prog w A M (call (.ref a) xs) v s)
  nolim : ∀ h, G h → h.NoLimit
  dic : ∀ a k z, (K.dic a).lookup k = some z → ∀ h, G h → ∃ xs, h.DictOf (strKind prog w) a xs ∧ ∃ t, valueAt xs k = some (.str z t)
  gen : ∀ id v vs, K.gen id v = some vs → ∃ a, (∀ h, G h → ∃ o fd, h.get? a = some o ∧ o.data = .func fd) ∧
    (∀ A env (s : Shared) (Q E : Value → Shared → Prop), env.globals = gl → env.builtins = bl → G s.heap → Q (.ref a) s → wpAny (model prog w) A (loadGlobal env id) Q E s) ∧
    (∀ A (s : Shared) (M : Gh) x, RM A d → G s.heap → 1 ≤ s.toks → Tb M s.toks → Al M.m s.heap → VR M s.heap v x → ∀ (Q E : Value → Shared → Prop),
      (∀ itv W s', GenMade prog w A G false vs M s itv W s' → Q itv s') → wpAny (model prog w) A (call (.ref a) [x]) (fun r s₁ => wpAny (model prog w) A (pyIter r) Q E s₁) E s)

noncomputable def Loc (env : Env) (sn : Nms) (m : Str → Option Value) (h : Heap) (id : Str) (x : Option Value) : Prop :=
  (sn.lookup id = some .local ∧ m id = x) ∨ ((sn.lookup id = some .cell ∨ sn.lookup id = some .free) ∧ ∃ c, env.cells.lookup id = some c ∧ h.IsCell c x)

variable {prog : Program} {w : World}

structure FS (C : Cx prog w) (M : Gh) (Ch : Pr) (nm : List Str) (sn : Nms) (n : Nat) (env : Env) (σ : Sto) (s : Shared) : Prop where
  kind : env.scope.kind = .function
  names : env.scope.names = sn
  gl : env.globals = C.gl
  bl : env.builtins = C.bl
  g : C.G s.heap
  t : 1 ≤ s.toks
  tb : Tb M s.toks
  al : Al M.m s.heap
  sub : ∀ a, Ch a → M.m a ∧ ¬ C.Old a
  len : σ.length = nm.length
  loc : Ch env.locals
  vals : ∃ m, s.heap.Ns env.locals m ∧ ∀ i, i < nm.length → ∃ x, Loc env sn m s.heap (nmAt nm i) x ∧
    ∀ v, σ.at i = some v → ∃ y, x = some y ∧ VR M s.heap v y ∧ ∀ vs, v = .olst vs → ∃ a, y = .ref a ∧ Ch a
  inj : ∀ i j c, i < nm.length → j < nm.length → sn.lookup (nmAt nm i) ≠ some .local → sn.lookup (nmAt nm j) ≠ some .local → env.cells.lookup (nmAt nm i) = some c → env.cells.lookup (nmAt nm j) = some c → i = j
  wr : ∀ i c, i < n → sn.lookup (nmAt nm i) ≠ some .local → env.cells.lookup (nmAt nm i) = some c → Ch c
  one : ∀ i j vs ws, σ.at i = some (.olst vs) → σ.at j = some (.olst ws) → i = j
  ml : M.m env.locals
  nd : ∀ i j, i < nm.length → j < nm.length → nmAt nm i = nmAt nm j → i = j
  wk : ∀ i, i < n → i < nm.length ∧ (sn.lookup (nmAt nm i) = some .local ∨ sn.lookup (nmAt nm i) = some .cell)
  pl : ∀ i v, σ.at i = some v → v.plain = true ∨ ∃ vs, v = .olst vs ∧ plains vs = true
  cm : ∀ i c, i < nm.length → sn.lookup (nmAt nm i) ≠ some .local → env.cells.lookup (nmAt nm i) = some c → M.m c

variable {C : Cx prog w} {M : Gh} {Ch : Pr} {nm : List Str} {sn : Nms} {n : Nat} {env : Env} {σ : Sto} {s s' : Shared} {A : Around}

theorem AdvE.G (a : AdvE s s') (g : C.G s.heap) : C.G s'.heap := C.stay _ _ g fun b o _ e => a.keep b o id e

theorem FS.adv (f : FS C M Ch nm sn n env σ s) {M' : Gh} (g : M.le M') (hb : Tb M' s'.toks) (a : AdvE s s') : FS C M' Ch nm sn n env σ s' where
  kind := f.kind
  names := f.names
  gl := f.gl
  bl := f.bl
  g := a.G f.g
  t := Nat.le_trans f.t a.toks
  tb := hb
  al := by rw [g.m]; exact f.al.adv a
  sub := by rw [g.m]; exact f.sub
  len := f.len
  loc := f.loc
  vals := by
    obtain ⟨m, hn, h⟩ := f.vals
    refine ⟨m, hn.keeps a.st, fun i hi => ?_⟩
    obtain ⟨x, hl, hv⟩ := h i hi
    refine ⟨x, ?_, fun v e => ?_⟩
    · rcases hl with hl | ⟨hk, c, hc, hx⟩
      · exact Or.inl hl
      · exact Or.inr ⟨hk, c, hc, hx.keeps a.st⟩
    · obtain ⟨y, hy, r, o⟩ := hv v e
      exact ⟨y, hy, (r.keep a.st).up g, o⟩
  inj := f.inj
  wr := f.wr
  one := f.one
  ml := by rw [g.m]; exact f.ml
  nd := f.nd
  wk := f.wk
  pl := f.pl
  cm := by rw [g.m]; exact f.cm

theorem at_lt {σ : Sto} {i : Nat} {v : V} (e : σ.at i = some v) : i < σ.length := by
  unfold Sto.at at e
  cases h : σ[i]? with
  | none => rw [h] at e; cases e
  | some o => exact (List.getElem?_eq_some_iff.mp h).1

/-- a name's value -/
theorem FS.var (f : FS C M Ch nm sn n env σ s) {i p : Nat} {v : V} (e : σ.at i = some v) (hd : (nmAt nm i == ("__debug__" : Str)) = false) (hc : (nmAt nm i == ("__classdict__" : Str)) = false) : EvAt0 prog w A M (eval (.Name (nmAt nm i) (ps p)) env) v s := by
  intro Q E h
  obtain ⟨m, hn, hs⟩ := f.vals
  obtain ⟨x, hl, hv⟩ := hs i (by rw [← f.len]; exact at_lt e)
  obtain ⟨y, rfl, r, _⟩ := hv v e
  refine wpAny_Name ?_ hd
  rcases hl with ⟨hk, hm⟩ | ⟨hk, c, hcl, hx⟩
  · exact wpAny_loadName_local f.kind (by unfold Env.kindOf; rw [f.names]; exact hk) hn hm (h _ _ Adv.refl r)
  · rcases hk with hk | hk
    · exact wpAny_loadName_cell f.kind (by unfold Env.kindOf; rw [f.names]; exact hk) hcl hx (h _ _ Adv.refl r)
    · exact wpAny_loadName_free f.kind (by unfold Env.kindOf; rw [f.names]; exact hk) hcl hx (h _ _ Adv.refl r) hc

end Mine

namespace Mine
open PySem PySem.W PySem.Calls PyProof.Rows

variable {prog : Program} {w : World} {C : Cx prog w} {M : Gh} {Ch : Pr} {nm : List Str} {sn : Nms} {n : Nat} {env : Env} {σ : Sto} {s s' : Shared} {A : Around}

theorem set_at {σ : Sto} {i j : Nat} {v : V} (hi : i < σ.length) : Sto.at (σ.set i (some v)) j = if j = i then some v else σ.at j := by
  unfold Sto.at
  rw [List.getElem?_set]
  by_cases h : i = j
  · subst h; simp [hi]
  · have h' : ¬ j = i := fun z => h z.symm
    simp [h, h']

/-- the values of a frame survive a change at one of its own addresses -/
theorem FS.storeG (f : FS C M Ch nm sn n env σ s) {i : Nat} {v : V} {x : Value} (hi : i < n) (hv : v.plain = true ∨ ∃ vs a, v = .olst vs ∧ plains vs = true ∧ x = .ref a ∧ Ch a ∧ ∀ j us, σ.at j ≠ some (.olst us)) (r : VR M s.heap v x) (Q : Unit → Shared → Prop) (E : Value → Shared → Prop)
    (h : ∀ s', Adv Ch s.gens.size s s' → FS C M Ch nm sn n env (σ.set i (some v)) s' → Q () s') : wpAny (model prog w) A (storeName env (nmAt nm i) x) Q E s := by
  obtain ⟨hin, hk⟩ := f.wk i hi
  obtain ⟨m, hn, hs⟩ := f.vals
  have hil : i < σ.length := by rw [f.len]; exact hin
  obtain ⟨oL, _, _, hoL, hdL, _⟩ := id hn
  -- what any such write leaves
  have key : ∀ (a : Addr) (h' : Heap) (k : Nat) (m' : Str → Option Value), Ch a → (∀ its, ¬ s.heap.PlainList a its) → Heap.SameBut a s.heap h' → (∃ o, h'.get? a = some o) → s.toks ≤ k → h'.Ns env.locals m' →
      (∀ j, j < nm.length → j ≠ i → ∀ y, Loc env sn m s.heap (nmAt nm j) y → Loc env sn m' h' (nmAt nm j) y) → Loc env sn m' h' (nmAt nm i) (some x) →
      FS C M Ch nm sn n env (σ.set i (some v)) { s with heap := h', toks := k } ∧ Adv Ch s.gens.size s { s with heap := h', toks := k } := by
    intro a h' k m' ha hpl hsb hlive ht hn' hoth hme
    have hadv : Adv Ch s.gens.size s { s with heap := h', toks := k } := Adv.same ha hsb hlive ht
    have hkm : Kp M.m s.heap h' := fun b o hb e => hadv.keep b o (fun z => hb (f.sub b z).1) e
    have hrk : ∀ {u : V} {y : Value}, u.plain = true → VR M s.heap u y → VR M h' u y := fun hp q => VR.but hkm hp q
    refine ⟨⟨f.kind, f.names, f.gl, f.bl, ?_, Nat.le_trans f.t ht, f.tb.mono ht, f.al.adv hadv, f.sub, by rw [List.length_set]; exact f.len, f.loc, ⟨m', hn', fun j hj => ?_⟩, f.inj, f.wr, fun p q vs ws hp hq => ?_, f.ml, f.nd, f.wk, fun p u hp => ?_, f.cm⟩, hadv⟩
    · exact C.stay _ _ f.g fun b o hb e => hadv.keep b o (fun z => (f.sub b z).2 hb) e
    · by_cases hji : j = i
      · subst hji
        exact ⟨some x, hme, fun u hu => by
          rw [set_at hil, if_pos rfl] at hu
          cases hu
          rcases hv with hv | ⟨ws, a', rfl, hp, rfl, hCa, hno⟩
          · exact ⟨x, rfl, hrk hv r, fun vs e => by rw [e] at hv; cases hv⟩
          · obtain ⟨a'', its, e', hM', hl', rs⟩ := r
            cases e'
            have hne : a' ≠ a := fun z => hpl its (z ▸ hl')
            exact ⟨_, rfl, ⟨a', its, rfl, hM', hl'.at fun o e => (hsb.2 a' hne).trans e, VRs.but hkm hp rs⟩, fun vs e => ⟨a', rfl, hCa⟩⟩⟩
      · obtain ⟨y, hl, hy⟩ := hs j hj
        refine ⟨y, hoth j hj hji y hl, fun u hu => ?_⟩
        rw [set_at hil, if_neg hji] at hu
        obtain ⟨z, rfl, q, o⟩ := hy u hu
        refine ⟨z, rfl, ?_, o⟩
        rcases f.pl j u hu with hpu | ⟨us, rfl, hpu⟩
        · exact hrk hpu q
        · obtain ⟨a', its, rfl, hM', hl', rs⟩ := q
          have hne : a' ≠ a := fun z => hpl its (z ▸ hl')
          exact ⟨a', its, rfl, hM', hl'.at fun o e => (hsb.2 a' hne).trans e, VRs.but hkm hpu rs⟩
    · rw [set_at hil] at hp hq
      by_cases h1 : p = i
      · by_cases h2 : q = i
        · rw [h1, h2]
        · rw [if_pos h1] at hp; rw [if_neg h2] at hq; cases hp
          rcases hv with hv | ⟨_, _, _, _, _, _, hno⟩
          · cases hv
          · exact absurd hq (hno q ws)
      · rw [if_neg h1] at hp
        by_cases h2 : q = i
        · rw [if_pos h2] at hq; cases hq
          rcases hv with hv | ⟨_, _, _, _, _, _, hno⟩
          · cases hv
          · exact absurd hp (hno p vs)
        · rw [if_neg h2] at hq; exact f.one p q vs ws hp hq
    · rw [set_at hil] at hp
      by_cases h1 : p = i
      · rw [if_pos h1] at hp; cases hp; exact hv.elim Or.inl fun ⟨vs, _, e, hp, _⟩ => Or.inr ⟨vs, e, hp⟩
      · rw [if_neg h1] at hp; exact f.pl p u hp
  rcases hk with hk | hk
  · refine wpAny_storeName_local (by unfold Env.kindOf; rw [f.names]; exact hk) hn (fun h' hn' hs' => ?_) (by rw [f.kind]; rfl)
    have hoth : ∀ j, j < nm.length → j ≠ i → ∀ y, Loc env sn m s.heap (nmAt nm j) y → Loc env sn (fun z => if z = nmAt nm i then some x else m z) h' (nmAt nm j) y := by
      intro j hj hji y hl
      rcases hl with ⟨h1, h2⟩ | ⟨h1, c, hc, hx⟩
      · refine Or.inl ⟨h1, ?_⟩
        have : nmAt nm j ≠ nmAt nm i := fun z => hji (f.nd _ _ hj hin z)
        simp [this, h2]
      · refine Or.inr ⟨h1, c, hc, hx.sameBut hs' fun z => ?_⟩
        obtain ⟨o, ho, hd⟩ := hx
        rw [z, hoL] at ho; cases ho; rw [hdL] at hd; cases hd
    have hfa := key env.locals h' (s.toks + 1) _ f.loc (fun its ⟨k, hp⟩ => by rw [hoL] at hp; cases hp; cases hdL) hs' (let ⟨o, _, _, ho, _⟩ := hn'; ⟨o, ho⟩) (Nat.le_succ _) hn' hoth (Or.inl ⟨hk, by simp⟩)
    exact h _ hfa.2 hfa.1
  · obtain ⟨y, hl, hy⟩ := hs i hin
    rcases hl with ⟨h1, _⟩ | ⟨h1, c, hc, hx⟩
    · rw [hk] at h1; cases h1
    · refine wpAny_storeName_cell f.kind (by unfold Env.kindOf; rw [f.names]; exact hk) hc hx fun h' hx' hs' => ?_
      have hnl : sn.lookup (nmAt nm i) ≠ some .local := by rw [hk]; decide
      have hcL : env.locals ≠ c := fun z => by
        obtain ⟨o, ho, hd⟩ := hx
        rw [← z, hoL] at ho; cases ho; rw [hdL] at hd; cases hd
      have hoth : ∀ j, j < nm.length → j ≠ i → ∀ y, Loc env sn m s.heap (nmAt nm j) y → Loc env sn m h' (nmAt nm j) y := by
        intro j hj hji y hl
        rcases hl with ⟨h1', h2⟩ | ⟨h1', c', hc', hx''⟩
        · exact Or.inl ⟨h1', h2⟩
        · have hnl' : sn.lookup (nmAt nm j) ≠ some .local := by rcases h1' with e | e <;> rw [e] <;> decide
          exact Or.inr ⟨h1', c', hc', hx''.sameBut hs' fun z => hji (f.inj j i c hj hin hnl' hnl (z ▸ hc') hc)⟩
      have hfa := key c h' s.toks m (f.wr i c hi hnl hc) (fun its ⟨k, hp⟩ => by obtain ⟨o, ho, hd⟩ := hx; rw [ho] at hp; cases hp; cases hd) hs' (let ⟨o, ho, _⟩ := hx'; ⟨o, ho⟩) (Nat.le_refl _) (hn.sameBut hs' hcL) hoth (Or.inr ⟨h1, c, hc, hx'⟩)
      exact h _ hfa.2 hfa.1

theorem FS.store (f : FS C M Ch nm sn n env σ s) {i : Nat} {v : V} {x : Value} (hi : i < n) (hv : v.plain = true) (r : VR M s.heap v x) (Q : Unit → Shared → Prop) (E : Value → Shared → Prop)
    (h : ∀ s', Adv Ch s.gens.size s s' → FS C M Ch nm sn n env (σ.set i (some v)) s' → Q () s') : wpAny (model prog w) A (storeName env (nmAt nm i) x) Q E s := f.storeG hi (Or.inl hv) r Q E h

theorem Adv.weaken {C C' : Pr} {n n' : Nat} {s s' : Shared} (a : Adv C n s s') (hn : n' ≤ n) (hc : ∀ x, C x → C' x) : Adv C' n' s s' := a.more hn fun x h => Or.inl (hc x h)

theorem FS.assign (f : FS C M Ch nm sn n env σ s) (hh : A.handled = none) {t : T} {v : V} {x : Value} {σ' : Sto} (e : putT n t v σ = some σ') (r : VR M s.heap v x) (Q : Unit → Shared → Prop) (E : Value → Shared → Prop)
    (h : ∀ s', Adv Ch s.gens.size s s' → FS C M Ch nm sn n env σ' s' → Q () s') : wpAny (model prog w) A (PySem.assign (deT nm t) env x) Q E s := by
  cases t with
  | t1 p i =>
    simp only [putT] at e
    split at e
    · rename_i hc
      cases e
      simp only [Bool.and_eq_true, decide_eq_true_eq] at hc
      exact wpAny_assign_Name (f.store hc.1 hc.2 r _ _ h)
    · cases e
  | t2 p p1 i p2 j =>
    simp only [putT] at e
    split at e
    · rename_i a b
      split at e
      · rename_i hc
        cases e
        simp only [Bool.and_eq_true, decide_eq_true_eq] at hc
        obtain ⟨⟨⟨hi, hj⟩, ha⟩, hb⟩ := hc
        obtain ⟨l, items, rfl, hm, hl, ⟨y, ys, hy, ra, ⟨z, zs, hz, rb, hzs⟩⟩⟩ := r
        have hzs : zs = [] := hzs
        subst hzs hz
        have hit : items = #[y, z] := by
          apply Array.toList_inj.mp
          simpa using hy
        subst hit
        refine wpAny_assign_Tuple hh hl.tuple rfl rfl fun h₃ hx₃ => ?_
        have ad : AdvE s { s with heap := h₃ } := AdvE.heap fun b o e => hx₃ b o (Nat.ne_of_lt (Heap.lt_size e)) e
        have f₃ := f.adv .refl (f.tb.mono ad.toks) ad
        show wpAny _ A (do holding [z] (PySem.assign (.Name (nmAt nm i) (ps p1)) env y); do holding [] (PySem.assign (.Name (nmAt nm j) (ps p2)) env z); pure ()) _ _ _
        refine wpAny_bind (wpAny_holding (wpAny_assign_Name (f₃.store hi ha (ra.keep ad.st) _ _ fun s₄ ad₄ f₄ => ?_)))
        refine wpAny_bind (wpAny_holding (wpAny_assign_Name (f₄.store hj hb (VR.but (fun b o hb e => ad₄.keep b o (fun z => hb (f.sub b z).1) e) hb (rb.keep ad.st)) _ _ fun s₅ ad₅ f₅ => wpAny_pure (h _ ?_ f₅))))
        have q : Adv Ch s.gens.size s s₄ := Adv.trans (ad.to (Nat.le_refl _)) ad₄ (Nat.le_refl _) fun x hx => Or.inl hx
        exact Adv.trans q ad₅ ad₄.gsz fun x hx => Or.inl hx
      · cases e
    · cases e

end Mine

namespace Mine
open PySem PySem.W PySem.Calls PyProof.Rows

variable {prog : Program} {w : World} {C : Cx prog w} {M : Gh} {Ch : Pr} {nm : List Str} {sn : Nms} {n : Nat} {env : Env} {σ : Sto} {s s' : Shared} {A : Around}

theorem compLoop_any {R : Result → Shared → Prop} {elt target iter : Expr} {ifs : List Expr} {scope : Scope} {pos : Pos} {it acc : Value} {env : Env} (I : Nat → Shared → Prop)
    (turn : ∀ n s, I n s → wpAny (model prog w) A (pyNext it) (fun r s₁ => match r with
      | none => R (.ok .next) s₁
      | some v => wpAny (model prog w) A (letOwnedTupleGo target it v) (fun _ s₁' => wpAny (model prog w) A (PySem.assign target env v) (fun _ s₂ =>
          wpAny (model prog w) A (forIn ifs true fun c r => if r = true then do let ok ← isTrue c env (eval c env); pure (ForInStep.yield ok) else pure (ForInStep.yield r)) (fun ok s₃ =>
            if ok = true then wpAny (model prog w) A (eval elt env) (fun x s₄ =>
              wpAny (model prog w) A (call (.builtin "list.append") [acc, x]) (fun _ s₅ => ∃ m, m < n ∧ I m s₅) (notedBy (model prog w) A env fun e s' => R (.error e) s') s₄) (notedBy (model prog w) A env fun e s' => R (.error e) s') s₃
            else ∃ m, m < n ∧ I m s₃) (notedBy (model prog w) A env fun e s' => R (.error e) s') s₂) (notedBy (model prog w) A env fun e s' => R (.error e) s') s₁') (notedBy (model prog w) A env fun e s' => R (.error e) s') s₁) (notedBy (model prog w) A env fun e s' => R (.error e) s') s)
    (n : Nat) (h : I n s) :
    codeAny (model prog w) A (.compLoop (.ListComp elt [⟨target, iter, ifs, 0⟩] scope pos) 0 it acc env) R s := by
  refine codeAny_loop rfl I (fun n s hI => ?_) n h
  show wpAny _ A ((compTurn (.ListComp elt [⟨target, iter, ifs, 0⟩] scope pos) 0 it acc env).onRaise (fun x => do noteFrame x env; theTreesLotGoes x)) _ _ s
  refine wpAny_noted ?_
  rw [compTurn_list]
  refine wpAny_bind (wpAny_standAt (wpAny_bind (wpAny_mono (turn n s hI) (fun r s₁ h₁ => ?_) fun _ _ h' => h')))
  cases r with
  | none => exact wpAny_pure h₁
  | some v =>
    refine wpAny_bind (wpAny_mono h₁ (fun _ s₁' h₁' => ?_) fun _ _ h' => h')
    refine wpAny_bind (wpAny_mono h₁' (fun _ s₂ h₂ => wpAny_bind (wpAny_mono h₂ (fun ok s₃ h₃ => ?_) fun _ _ h' => h')) fun _ _ h' => h')
    cases ok with
    | false => exact wpAny_pure ⟨rfl, h₃⟩
    | true =>
      exact wpAny_bind (wpAny_bind (wpAny_mono h₃ (fun x s₄ h₄ => wpAny_bind (wpAny_mono h₄ (fun _ s₅ h₅ => wpAny_pure (wpAny_pure ⟨rfl, h₅⟩)) fun _ _ h' => h')) fun _ _ h' => h'))

/-! the scope of a comprehension -/
noncomputable def relab (sn scn : Nms) : Nms := scn.map fun x => if x.2 == .free && sn.lookup x.1 == some .cell then (x.1, .cell) else x

structure ScOK (nm : List Str) (sn : Nms) (sc : Scope) (nm' : List Str) (cap : List Nat) (k : Nat) : Prop where
  kind : sc.kind = .function
  loc : ∀ x ∈ sc.names, x.2 = .local → sc.names.lookup x.1 = some .local
  fre : ∀ x ∈ sc.names, x.2 = .free → sc.names.lookup x.1 = some .free ∧ sn.lookup x.1 = some .cell ∧ ∃ i, i < nm.length ∧ nmAt nm i = x.1
  one : ∀ x ∈ sc.names, ∀ y ∈ sc.names, x.2 = .cell → y.2 = .cell → x.1 = y.1
  cel : ∀ x ∈ sc.names, x.2 = .cell → sc.names.lookup x.1 = some .cell
  len : nm'.length = k + cap.length
  tgt : ∀ i, i < k → sc.names.lookup (nmAt nm' i) = some .local ∨ sc.names.lookup (nmAt nm' i) = some .cell
  cap : ∀ j, j < cap.length → sc.names.lookup (nmAt nm' (k + j)) = some .free ∧ nmAt nm' (k + j) = nmAt nm (cap.getD j 0) ∧ cap.getD j 0 < nm.length
  nd : ∀ i j, i < nm'.length → j < nm'.length → nmAt nm' i = nmAt nm' j → i = j

noncomputable def okSc (nm : List Str) (sn : Nms) (sc : Scope) (nm' : List Str) (cap : List Nat) (k : Nat) : Bool :=
  sc.kind == .function &&
  sc.names.all (fun x => x.2 != .local || sc.names.lookup x.1 == some .local) &&
  sc.names.all (fun x => x.2 != .free || (sc.names.lookup x.1 == some .free && sn.lookup x.1 == some .cell && (List.range nm.length).any fun i => nmAt nm i == x.1)) &&
  sc.names.all (fun x => sc.names.all fun y => x.2 != .cell || y.2 != .cell || x.1 == y.1) &&
  sc.names.all (fun x => x.2 != .cell || sc.names.lookup x.1 == some .cell) &&
  nm'.length == k + cap.length &&
  (List.range k).all (fun i => sc.names.lookup (nmAt nm' i) == some .local || sc.names.lookup (nmAt nm' i) == some .cell) &&
  (List.range cap.length).all (fun j => sc.names.lookup (nmAt nm' (k + j)) == some .free && nmAt nm' (k + j) == nmAt nm (cap.getD j 0) && decide (cap.getD j 0 < nm.length)) &&
  (List.range nm'.length).all fun i => (List.range nm'.length).all fun j => i == j || nmAt nm' i != nmAt nm' j

theorem okSc_ok {sc : Scope} {nm' : List Str} {cap : List Nat} {k : Nat} (h : okSc nm sn sc nm' cap k = true) : ScOK nm sn sc nm' cap k := by
  unfold okSc at h
  simp only [Bool.and_eq_true, List.all_eq_true, Bool.or_eq_true, beq_iff_eq, bne_iff_ne, ne_eq, List.any_eq_true, List.mem_range, decide_eq_true_eq] at h
  obtain ⟨⟨⟨⟨⟨⟨⟨⟨h1, h2⟩, h3⟩, h4⟩, h5⟩, h6⟩, h7⟩, h8⟩, h9⟩ := h
  refine ⟨h1, fun x hx e => (h2 x hx).elim (fun z => absurd e z) id, fun x hx e => ?_, fun x hx y hy e1 e2 => ?_, fun x hx e => (h5 x hx).elim (fun z => absurd e z) id, h6, h7, fun j hj => ?_, fun i j hi hj e => ?_⟩
  · rcases h3 x hx with z | ⟨⟨a, b⟩, c⟩
    · exact absurd e z
    · exact ⟨a, b, c⟩
  · rcases h4 x hx y hy with (z | z) | z
    · exact absurd e1 z
    · exact absurd e2 z
    · exact z
  · obtain ⟨⟨a, b⟩, c⟩ := h8 j hj
    exact ⟨a, b, c⟩
  · rcases h9 i hi j hj with z | z
    · exact z
    · exact absurd e z

theorem lookup_relab {sn : Nms} : ∀ {scn : Nms} {id : Str} {k : NameKind}, scn.lookup id = some k → (relab sn scn).lookup id = some (if k == .free && sn.lookup id == some .cell then .cell else k)
  | [], _, _, h => by cases h
  | (a, b) :: r, id, k, h => by
    unfold relab
    rw [List.map_cons]
    rw [List.lookup_cons] at h
    cases hab : id == a with
    | true =>
      rw [hab] at h
      have e := eq_of_beq hab
      subst e
      cases h
      dsimp only
      cases hz : (b == NameKind.free && List.lookup id sn == some NameKind.cell) with
      | true => simp only [if_true]; rw [List.lookup_cons, beq_self_eq_true]
      | false => simp only [Bool.false_eq_true, if_false]; rw [List.lookup_cons, beq_self_eq_true]
    | false =>
      rw [hab] at h
      have ih := lookup_relab (sn := sn) h
      unfold relab at ih
      dsimp only
      cases hz : (b == NameKind.free && List.lookup a sn == some NameKind.cell) with
      | true => simp only [if_true]; rw [List.lookup_cons, hab]; exact ih
      | false => simp only [Bool.false_eq_true, if_false]; rw [List.lookup_cons, hab]; exact ih

/-- the cells that a comprehension takes with it -/
noncomputable def clF (cells : List (Str × Addr)) : Nms → List (Str × Addr) → List (Str × Addr)
  | [], acc => acc
  | x :: r, acc => clF cells r (if x.2 == .free then (match cells.lookup x.1 with | some c => (x.1, c) :: acc | none => acc) else acc)

theorem clF_lookup {cells : List (Str × Addr)} {id : Str} : ∀ (names : Nms) (acc : List (Str × Addr)), (acc.lookup id = none ∨ acc.lookup id = cells.lookup id) →
    (clF cells names acc).lookup id = none ∨ (clF cells names acc).lookup id = cells.lookup id
  | [], acc, h => h
  | x :: r, acc, h => by
    unfold clF
    refine clF_lookup r _ ?_
    split
    · split
      · rename_i c hc
        rw [List.lookup_cons]
        cases hx : id == x.1 with
        | true => right; have e := eq_of_beq hx; rw [e, hc]
        | false => exact h
      · exact h
    · exact h
theorem clF_some {cells : List (Str × Addr)} {id : Str} : ∀ (names : Nms) (acc : List (Str × Addr)), (acc.lookup id ≠ none ∨ ((id, NameKind.free) ∈ names ∧ cells.lookup id ≠ none)) → (clF cells names acc).lookup id ≠ none
  | [], acc, h => by
    rcases h with h | ⟨h, _⟩
    · exact h
    · cases h
  | x :: r, acc, h => by
    unfold clF
    refine clF_some r _ ?_
    rcases h with h | ⟨h, hc⟩
    · left
      split
      · split
        · rw [List.lookup_cons]; split
          · simp
          · exact h
        · exact h
      · exact h
    · rcases List.mem_cons.mp h with rfl | h
      · left
        simp only [beq_self_eq_true, if_true]
        split
        · rw [List.lookup_cons, beq_self_eq_true]; simp
        · rename_i hn; exact absurd hn hc
      · right; exact ⟨h, hc⟩
theorem closure_ok (f : Str × NameKind → List (Str × Addr) → Sem (ForInStep (List (Str × Addr))))
    (hf : ∀ name kind cs, f (name, kind) cs = if kind == .free then (do let c ← cellOf env name; pure (ForInStep.yield ((name, c) :: cs))) else pure (ForInStep.yield cs)) :
    ∀ (names : Nms), (∀ x ∈ names, x.2 = .free → ∃ c, env.cells.lookup x.1 = some c) → ∀ acc : List (Str × Addr), forIn names acc f = pure (clF env.cells names acc)
  | [], _, acc => rfl
  | (nme, k) :: r, h, acc => by
    rw [List.forIn_cons, hf]
    unfold clF
    cases hk : k == NameKind.free with
    | true =>
      obtain ⟨c, hc⟩ := h (nme, k) (List.mem_cons_self ..) (eq_of_beq hk)
      have hc : env.cells.lookup nme = some c := hc
      have e : cellOf env nme = pure c := by unfold cellOf; rw [hc]
      rw [e]
      simp only [if_true, pure_bind, hc]
      exact closure_ok f hf r (fun x hx => h x (List.mem_cons_of_mem _ hx)) _
    | false =>
      simp only [Bool.false_eq_true, if_false, pure_bind]
      exact closure_ok f hf r (fun x hx => h x (List.mem_cons_of_mem _ hx)) _
theorem closureFor_ok {sc : Scope} (h : ∀ x ∈ sc.names, x.2 = .free → ∃ c, env.cells.lookup x.1 = some c) : closureFor sc env = pure (clF env.cells sc.names []) := by
  unfold closureFor
  dsimp only
  rw [closure_ok _ (fun name kind cs => by cases hkc : kind == NameKind.free <;> simp) sc.names h []]
  rfl

theorem cellsFrom_other {id : Str} : ∀ (names : Nms) (k : Nat) (acc : List (Str × Addr)), (id, NameKind.cell) ∉ names → (cellsFrom k names acc).lookup id = acc.lookup id
  | [], _, _, _ => rfl
  | (a, b) :: r, k, acc, h => by
    unfold cellsFrom
    have hr : (id, NameKind.cell) ∉ r := fun z => h (List.mem_cons_of_mem _ z)
    split
    · rename_i hb
      rw [cellsFrom_other r _ _ hr, List.lookup_cons]
      have : (id == a) = false := by
        cases hz : id == a with
        | false => rfl
        | true => exact absurd (by rw [eq_of_beq hz, eq_of_beq hb]; exact List.mem_cons_self ..) h
      rw [this]
    · exact cellsFrom_other r _ _ hr
theorem cellsFrom_own {id : Str} {B₀ : Nat} : ∀ (names : Nms) (h : Heap) (acc : List (Str × Addr)), ((id, NameKind.cell) ∈ names ∨ ∃ c, acc.lookup id = some c ∧ B₀ ≤ c ∧ h.IsCell c none) → B₀ ≤ h.objs.size →
    ∃ c, (cellsFrom h.objs.size names acc).lookup id = some c ∧ B₀ ≤ c ∧ (pushCells h names).IsCell c none
  | [], h, acc, hi, _ => by
    rcases hi with hi | hi
    · cases hi
    · exact hi
  | (a, b) :: r, h, acc, hi, hB => by
    unfold cellsFrom pushCells
    split
    · rename_i hb
      have hz : (h.push { cls := .type "cell", data := .cell none }).objs.size = h.objs.size + 1 := Heap.size_push ..
      rw [← hz]
      refine cellsFrom_own r _ _ ?_ (by rw [hz]; exact Nat.le_succ_of_le hB)
      cases ha : id == a with
      | true =>
        right
        exact ⟨h.objs.size, by rw [List.lookup_cons, ha], hB, _, Heap.get?_push_size _ rfl, rfl⟩
      | false =>
        rcases hi with hi | ⟨c, hc, hBc, hx⟩
        · rcases List.mem_cons.mp hi with e | hi
          · cases e; simp at ha
          · exact Or.inl hi
        · right
          exact ⟨c, by rw [List.lookup_cons, ha]; exact hc, hBc, hx.keeps fun _ _ e => Heap.get?_push_of_some _ e⟩
    · rename_i hb
      refine cellsFrom_own r _ _ ?_ hB
      rcases hi with hi | hi
      · rcases List.mem_cons.mp hi with e | hi
        · cases e; simp at hb
        · exact Or.inl hi
      · exact Or.inr hi

theorem new_comp_env {sc : Scope} {g : Addr} {cl : List (Str × Addr)} {qual : Str} {Q : Env → Shared → Prop} {E : Value → Shared → Prop}
    (h : Q (newEnv sc s.heap.objs.size g (cellsFrom (s.heap.objs.size + 1) sc.names cl) qual none .none (some env) builtinsNs) { s with heap := pushCells (s.heap.push { cls := .type "dict", data := .dict #[] }) sc.names }) :
    wpAny (model prog w) A (newFunctionEnv sc g cl [] qual none .none (some env)) Q E s := by
  simp only [newFunctionEnv, Option.isSome_some, if_true]
  refine wpAny_bind (wpAny_alloc ?_)
  refine wpAny_bind (wpAny_layCells _ (fun name kind cells => by cases hkc : kind == NameKind.cell <;> simp [hkc]) _ _ _ _ ?_)
  rw [show ({ s with heap := s.heap.push { cls := .type "dict", data := .dict #[] } } : Shared).heap.objs.size = s.heap.objs.size + 1 from Heap.size_push ..]
  exact wpAny_bind (wpAny_pure (wpAny_pure h))

end Mine

namespace Mine
open PySem PySem.W PySem.Calls PyProof.Rows

variable {prog : Program} {w : World} {C : Cx prog w} {M : Gh} {Ch : Pr} {nm : List Str} {sn : Nms} {n : Nat} {env : Env} {σ : Sto} {s s' : Shared} {A : Around}

theorem AdvE.old_none (a : AdvE s s') {b : Addr} (hb : s'.heap.objs.size ≤ b) : s.heap.get? b = none := by
  cases e : s.heap.get? b with
  | none => rfl
  | some o => exact absurd (Heap.lt_size (a.st b o e)) (Nat.not_lt.mpr hb)
theorem AdvE.none_of (a : AdvE s s') {b : Addr} (hb : s'.heap.get? b = none) : s.heap.get? b = none := by
  cases e : s.heap.get? b with
  | none => rfl
  | some o => rw [a.st b o e] at hb; cases hb
theorem mem_lookup {α : Type} {id : Str} {k : α} : ∀ {l : List (Str × α)}, l.lookup id = some k → (id, k) ∈ l
  | [], h => by cases h
  | (a, b) :: r, h => by
    rw [List.lookup_cons] at h
    cases hz : id == a with
    | true => rw [hz] at h; cases h; rw [eq_of_beq hz]; exact List.mem_cons_self ..
    | false => rw [hz] at h; exact List.mem_cons_of_mem _ (mem_lookup h)
theorem caps_at {σ : Sto} : ∀ {cap : List Nat} {cs : Sto}, caps σ cap = some cs → cs.length = cap.length ∧ ∀ j, j < cap.length → ∃ v, cs[j]? = some (some v) ∧ σ.at (cap.getD j 0) = some v ∧ v.plain = true
  | [], cs, e => by cases e; exact ⟨rfl, fun j h => absurd h (Nat.not_lt_zero _)⟩
  | i :: is, cs, e => by
    unfold caps at e
    split at e
    · rename_i v vs h1 h2
      split at e
      · rename_i hp
        cases e
        obtain ⟨hl, hs⟩ := caps_at h2
        refine ⟨by rw [List.length_cons, List.length_cons, hl], fun j hj => ?_⟩
        cases j with
        | zero => exact ⟨v, rfl, h1, hp⟩
        | succ j =>
          obtain ⟨u, a, b, c⟩ := hs j (by simpa using hj)
          exact ⟨u, by simpa using a, by simpa using b, c⟩
      · cases e
    · cases e

theorem rep_at {k : Nat} {cs : Sto} {i : Nat} : Sto.at (List.replicate k none ++ cs) i = if i < k then none else (cs[i - k]?).join := by
  unfold Sto.at
  rw [List.getElem?_append]
  split
  · rename_i h
    rw [List.length_replicate] at h
    rw [if_pos h, List.getElem?_replicate, if_pos h]; rfl
  · rename_i h
    rw [List.length_replicate] at h
    rw [if_neg h, List.length_replicate]

/-- the frame of a comprehension -/
theorem FS.inner (f : FS C M Ch nm sn n env σ s) {sc : Scope} {nm' : List Str} {cap : List Nat} {k : Nat} (hs : ScOK nm sn sc nm' cap k) {cs : Sto} (hcs : caps σ cap = some cs) {s₃ : Shared} (ad : AdvE s s₃) {M₀ : Pr} {τ : Tok → Option Str} (hM₀ : Al M₀ s₃.heap) (hMM : ∀ b, M.m b → M₀ b) (hτ : ∀ t u, M.τ t = some u → τ t = some u) (hτb : Tb ⟨M₀, τ⟩ s₃.toks)
    (hplain : ∀ b, M₀ b → M.m b ∨ s.heap.get? b = none) :
    ∃ cells' : List (Str × Addr), closureFor sc env = pure (clF env.cells sc.names []) ∧ cells' = cellsFrom (s₃.heap.objs.size + 1) sc.names (clF env.cells sc.names []) ∧
    ∀ (env' : Env) (Ch' : Pr), env' = { newEnv sc s₃.heap.objs.size env.globals cells' env.qual none .none (some env) builtinsNs with scope := relabel sc env } →
      Ch' = (fun b => b = s₃.heap.objs.size ∨ ∃ id, (id, NameKind.cell) ∈ sc.names ∧ cells'.lookup id = some b) →
      (∀ b, Ch' b → s₃.heap.objs.size ≤ b) ∧
      (∀ i c, i < nm'.length → (relab sn sc.names).lookup (nmAt nm' i) ≠ some .local → env'.cells.lookup (nmAt nm' i) = some c → M.m c ∨ Ch' c) ∧
      AdvE s₃ { s₃ with heap := pushCells (s₃.heap.push { cls := .type "dict", data := .dict #[] }) sc.names } ∧
      FS C ⟨fun b => M₀ b ∨ Ch' b, τ⟩ Ch' nm' (relab sn sc.names) k env' (List.replicate k none ++ cs) { s₃ with heap := pushCells (s₃.heap.push { cls := .type "dict", data := .dict #[] }) sc.names } := by
  have hz : (s₃.heap.push { cls := .type "dict", data := .dict #[] }).objs.size = s₃.heap.objs.size + 1 := Heap.size_push ..
  have hfree : ∀ x ∈ sc.names, x.2 = .free → ∃ c, env.cells.lookup x.1 = some c := fun x hx hk => by
    obtain ⟨_, h2, i, hi, hn⟩ := hs.fre x hx hk
    obtain ⟨m, _, hv⟩ := f.vals
    obtain ⟨y, hl, _⟩ := hv i hi
    rw [hn] at hl
    rcases hl with ⟨h, _⟩ | ⟨_, c, hc, _⟩
    · rw [h2] at h; cases h
    · exact ⟨c, hc⟩
  refine ⟨_, closureFor_ok hfree, rfl, fun env' Ch' henv hCh => ?_⟩
  have adv : AdvE s₃ { s₃ with heap := pushCells (s₃.heap.push { cls := .type "dict", data := .dict #[] }) sc.names } :=
    AdvE.heap fun b o e => pushCells_keeps _ _ b o (Heap.get?_push_of_some _ e)
  have hown : ∀ id, (id, NameKind.cell) ∈ sc.names → ∃ c, env'.cells.lookup id = some c ∧ s₃.heap.objs.size + 1 ≤ c ∧ (pushCells (s₃.heap.push { cls := .type "dict", data := .dict #[] }) sc.names).IsCell c none := fun id hid => by
    have := cellsFrom_own (id := id) (B₀ := s₃.heap.objs.size + 1) sc.names (s₃.heap.push { cls := .type "dict", data := .dict #[] }) (clF env.cells sc.names []) (Or.inl hid) (by rw [hz]; exact Nat.le_refl _)
    rw [hz] at this
    rw [henv]
    exact this
  have hcells : env'.cells = cellsFrom (s₃.heap.objs.size + 1) sc.names (clF env.cells sc.names []) := by rw [henv]; rfl
  have hcap : ∀ id, (id, NameKind.free) ∈ sc.names → env'.cells.lookup id = env.cells.lookup id := fun id hid => by
    rw [hcells, cellsFrom_other _ _ _ (fun z => by
      have h1 := (hs.fre _ hid rfl).1
      have h2 := hs.cel _ z rfl
      rw [h1] at h2; cases h2)]
    obtain ⟨c, hc⟩ := hfree _ hid rfl
    rcases clF_lookup (cells := env.cells) (id := id) sc.names [] (Or.inl rfl) with h | h
    · exact absurd h (clF_some _ _ (Or.inr ⟨hid, by rw [hc]; simp⟩))
    · exact h
  have hChge : ∀ b, Ch' b → s₃.heap.objs.size ≤ b := fun b hb => by
    rw [hCh] at hb
    rcases hb with rfl | ⟨id, hid, hl⟩
    · exact Nat.le_refl _
    · obtain ⟨c, hc, hle, _⟩ := hown id hid
      rw [← hcells] at hl
      rw [hl] at hc; cases hc
      exact Nat.le_of_succ_le hle
  have hfr : ∀ b, s₃.heap.objs.size ≤ b → s.heap.get? b = none := fun b hb => ad.old_none hb
  obtain ⟨hcl, hcv⟩ := caps_at hcs
  have hnsL : (pushCells (s₃.heap.push { cls := .type "dict", data := .dict #[] }) sc.names).Ns s₃.heap.objs.size (fun _ => none) := (Heap.Ns.new s₃.heap (.type "dict")).keeps (pushCells_keeps _ _)
  have hlocals : env'.locals = s₃.heap.objs.size := by rw [henv]; rfl
  have hChL : Ch' s₃.heap.objs.size := by rw [hCh]; exact Or.inl rfl
  have hChc : ∀ id c, (id, NameKind.cell) ∈ sc.names → env'.cells.lookup id = some c → Ch' c := fun id c hid hc => by
    rw [hCh]; exact Or.inr ⟨id, hid, by rw [← hcells]; exact hc⟩
  -- a captured slot
  have capt : ∀ i, i < nm'.length → ¬ i < k → ∃ j, j < cap.length ∧ i = k + j ∧ (nmAt nm' i, NameKind.free) ∈ sc.names ∧ nmAt nm' i = nmAt nm (cap.getD j 0) ∧ cap.getD j 0 < nm.length ∧ sn.lookup (nmAt nm' i) = some .cell ∧
      (relab sn sc.names).lookup (nmAt nm' i) = some .cell ∧ env'.cells.lookup (nmAt nm' i) = env.cells.lookup (nmAt nm' i) := fun i hi hk => by
    have hj : i - k < cap.length := by have := hs.len; lia
    have e : i = k + (i - k) := by lia
    obtain ⟨h1, h2, h3⟩ := hs.cap (i - k) hj
    rw [← e] at h1 h2
    have hmem := mem_lookup h1
    obtain ⟨_, h4, _⟩ := hs.fre _ hmem rfl
    refine ⟨i - k, hj, e, hmem, h2, h3, h4, ?_, hcap _ hmem⟩
    rw [lookup_relab h1, h4]; rfl
  have own : ∀ i, i < k → (relab sn sc.names).lookup (nmAt nm' i) = some .local ∨ ((relab sn sc.names).lookup (nmAt nm' i) = some .cell ∧ (nmAt nm' i, NameKind.cell) ∈ sc.names) := fun i hi => by
    rcases hs.tgt i hi with h | h
    · left; rw [lookup_relab h]; rfl
    · right; exact ⟨by rw [lookup_relab h]; rfl, mem_lookup h⟩
  have hcm : ∀ i c, i < nm'.length → (relab sn sc.names).lookup (nmAt nm' i) ≠ some .local → env'.cells.lookup (nmAt nm' i) = some c → M.m c ∨ Ch' c := fun i c hi hl hc => by
    by_cases hk : i < k
    · rcases own i hk with h | ⟨h, hm⟩
      · exact absurd h hl
      · exact Or.inr (hChc _ _ hm hc)
    · obtain ⟨j, hj, e, hm, h1, h2, h3, h4, h5⟩ := capt i hi hk
      left
      rw [h5, h1] at hc
      exact f.cm _ c h2 (by rw [← h1, h3]; decide) hc
  refine ⟨hChge, hcm, adv, ?_⟩
  have hgs : C.G s₃.heap := ad.G f.g
  refine ⟨?_, ?_, ?_, ?_, adv.G hgs, Nat.le_trans f.t (Nat.le_trans ad.toks adv.toks), hτb.mono adv.toks, ?_, fun a ha => ⟨Or.inr ha, fun ho => by obtain ⟨o, ho⟩ := C.live _ f.g a ho; rw [hfr a (hChge a ha)] at ho; cases ho⟩, ?_, by rw [hlocals]; exact hChL, ⟨fun _ => none, by rw [hlocals]; exact hnsL, fun i hi => ?_⟩,
    fun i j c hi hj hli hlj hci hcj => ?_, fun i c hi hl hc => ?_, fun i j vs ws hi hj => ?_, by rw [hlocals]; exact Or.inr hChL, hs.nd, fun i hi => ?_, fun i v hv => ?_, fun i c hi hl hc => ?_⟩
  · rw [henv]; exact hs.kind
  · rw [henv]
    show sc.names.map _ = _
    unfold relab
    refine List.map_congr_left fun x _ => ?_
    obtain ⟨a, b⟩ := x
    dsimp only
    unfold Env.kindOf
    rw [f.kind, f.names]
    simp
  · rw [henv]; exact f.gl
  · rw [henv]; exact f.bl
  · intro b hb
    rcases hb with hb | hb
    · obtain ⟨o, ho⟩ := hM₀ b hb
      exact ⟨o, adv.st b o ho⟩
    · rw [hCh] at hb
      rcases hb with rfl | ⟨id, hid, hl⟩
      · obtain ⟨o, _, _, ho, _⟩ := hnsL; exact ⟨o, ho⟩
      · obtain ⟨c, hc, _, o, ho, _⟩ := hown id hid
        rw [hcells, hl] at hc; cases hc
        exact ⟨o, ho⟩
  · rw [List.length_append, List.length_replicate, hcl, hs.len]
  · by_cases hk : i < k
    · rcases own i hk with h | ⟨h, hm⟩
      · exact ⟨none, Or.inl ⟨h, rfl⟩, fun v e => by rw [rep_at, if_pos hk] at e; cases e⟩
      · obtain ⟨c, hc, _, hx⟩ := hown _ hm
        exact ⟨none, Or.inr ⟨Or.inl h, c, hc, hx⟩, fun v e => by rw [rep_at, if_pos hk] at e; cases e⟩
    · obtain ⟨j, hj, e, hm, h1, h2, h3, h4, h5⟩ := capt i hi hk
      obtain ⟨m, _, hv⟩ := f.vals
      obtain ⟨x, hl, hy⟩ := hv _ h2
      rw [← h1] at hl
      rcases hl with ⟨h, _⟩ | ⟨_, c, hc, hx⟩
      · rw [h3] at h; cases h
      · refine ⟨x, Or.inr ⟨Or.inl h4, c, by rw [h5]; exact hc, (hx.keeps ad.st).keeps adv.st⟩, fun v ev => ?_⟩
        rw [rep_at, if_neg hk, show i - k = j by lia] at ev
        obtain ⟨u, hu, hσ, hp⟩ := hcv j hj
        rw [hu] at ev
        cases ev
        obtain ⟨y, rfl, r, _⟩ := hy _ hσ
        refine ⟨y, rfl, VR.keep adv.st (VR.keep ad.st (VR.less (M' := ⟨fun b => M₀ b ∨ Ch' b, τ⟩) (fun b hb => ?_) hτ hp r)), fun vs e => by rw [e] at hp; cases hp⟩
        rcases hb with hb | hb
        · exact hplain b hb
        · exact Or.inr (hfr b (hChge b hb))
  · have hold : ∀ i, i < nm'.length → ¬ i < k → env'.cells.lookup (nmAt nm' i) = some c → c < s₃.heap.objs.size ∧ ∃ j, i = k + j ∧ j < cap.length ∧ env.cells.lookup (nmAt nm (cap.getD j 0)) = some c ∧ nmAt nm' i = nmAt nm (cap.getD j 0) ∧ cap.getD j 0 < nm.length ∧ sn.lookup (nmAt nm (cap.getD j 0)) ≠ some .local := fun i hi hk hc => by
      obtain ⟨j, hj, e, hm, h1, h2, h3, h4, h5⟩ := capt i hi hk
      rw [h5] at hc
      refine ⟨?_, j, e, hj, h1 ▸ hc, h1, h2, by rw [← h1, h3]; decide⟩
      obtain ⟨m, _, hv⟩ := f.vals
      obtain ⟨x, hl, _⟩ := hv _ h2
      rw [← h1] at hl
      rcases hl with ⟨h, _⟩ | ⟨_, c', hc', hx⟩
      · rw [h3] at h; cases h
      · rw [hc] at hc'; cases hc'
        exact (hx.keeps ad.st).lt
    have hnew : ∀ i, i < k → (relab sn sc.names).lookup (nmAt nm' i) ≠ some .local → env'.cells.lookup (nmAt nm' i) = some c → s₃.heap.objs.size ≤ c ∧ (nmAt nm' i, NameKind.cell) ∈ sc.names := fun i hk hl hc => by
      rcases own i hk with h | ⟨h, hm⟩
      · exact absurd h hl
      · obtain ⟨c', hc', hle, _⟩ := hown _ hm
        rw [hc] at hc'; cases hc'
        exact ⟨Nat.le_of_succ_le hle, hm⟩
    by_cases h1 : i < k
    · obtain ⟨a1, a2⟩ := hnew i h1 hli hci
      by_cases h2 : j < k
      · obtain ⟨b1, b2⟩ := hnew j h2 hlj hcj
        exact hs.nd i j hi hj (hs.one _ a2 _ b2 rfl rfl)
      · exact absurd (hold j hj h2 hcj).1 (Nat.not_lt.mpr a1)
    · obtain ⟨a1, ja, a2, _, a3, a4, a5, a6⟩ := hold i hi h1 hci
      by_cases h2 : j < k
      · exact absurd a1 (Nat.not_lt.mpr (hnew j h2 hlj hcj).1)
      · obtain ⟨b1, jb, b2, _, b3, b4, b5, b6⟩ := hold j hj h2 hcj
        have := f.inj _ _ c a5 b5 a6 b6 a3 b3
        exact hs.nd i j hi hj (by rw [a4, b4, this])
  · rcases own i hi with h | ⟨h, hm⟩
    · exact absurd h hl
    · exact hChc _ _ hm hc
  · rw [rep_at] at hi
    split at hi
    · cases hi
    · rename_i hk
      have hlt : i - k < cap.length := by
        cases hq : cs[i - k]? with
        | none => rw [hq] at hi; cases hi
        | some o => have := (List.getElem?_eq_some_iff.mp hq).1; lia
      obtain ⟨u, hu, _, hp⟩ := hcv _ hlt
      rw [hu] at hi; cases hi; cases hp
  · refine ⟨by have := hs.len; lia, ?_⟩
    rcases own i hi with h | ⟨h, _⟩
    · exact Or.inl h
    · exact Or.inr h
  · rw [rep_at] at hv
    split at hv
    · cases hv
    · rename_i hk
      have hlt : i - k < cap.length := by
        cases hq : cs[i - k]? with
        | none => rw [hq] at hv; cases hv
        | some o => have := (List.getElem?_eq_some_iff.mp hq).1; lia
      obtain ⟨u, hu, _, hp⟩ := hcv _ hlt
      rw [hu] at hv; cases hv; exact Or.inl hp
  · exact (hcm i c hi hl hc).elim (fun z => Or.inl (hMM _ z)) Or.inr

end Mine

namespace Mine
open PySem PySem.W PySem.Calls PyProof.Rows

variable {prog : Program} {w : World} {C : Cx prog w} {M : Gh} {Ch : Pr} {nm : List Str} {sn : Nms} {n : Nat} {env : Env} {σ : Sto} {s s' : Shared} {A : Around}

theorem FS.away (f : FS C M Ch nm sn n env σ s) {X : Pr} {k : Nat} (a : Adv X k s s') (h1 : ∀ b, X b → M.m b) (h2 : ∀ b, X b → ¬ C.Old b) (h3 : ∀ b, Ch b → ¬ X b)
    (h4 : ∀ i c, i < nm.length → sn.lookup (nmAt nm i) ≠ some .local → env.cells.lookup (nmAt nm i) = some c → ¬ X c) : FS C M Ch nm sn n env σ s' := by
  obtain ⟨m, hn, hv⟩ := f.vals
  have hkm : Kp M.m s.heap s'.heap := fun b o hb e => a.keep b o (fun z => hb (h1 b z)) e
  refine ⟨f.kind, f.names, f.gl, f.bl, C.stay _ _ f.g fun b o hb e => a.keep b o (fun z => h2 b z hb) e, Nat.le_trans f.t a.toks, f.tb.mono a.toks, f.al.adv a, f.sub, f.len, f.loc,
    ⟨m, hn.at fun o e => a.keep _ o (h3 _ f.loc) e, fun i hi => ?_⟩, f.inj, f.wr, f.one, f.ml, f.nd, f.wk, f.pl, f.cm⟩
  obtain ⟨x, hl, hy⟩ := hv i hi
  refine ⟨x, ?_, fun v e => ?_⟩
  · rcases hl with h | ⟨hk, c, hc, o, ho, hd⟩
    · exact Or.inl h
    · exact Or.inr ⟨hk, c, hc, o, a.keep c o (h4 i c hi (by rcases hk with e | e <;> rw [e] <;> decide) hc) ho, hd⟩
  · obtain ⟨y, rfl, r, hown⟩ := hy v e
    refine ⟨y, rfl, ?_, hown⟩
    rcases f.pl i v e with hp | ⟨us, rfl, hp⟩
    · exact VR.but hkm hp r
    · obtain ⟨a', its, rfl, hM', hl', rs⟩ := r
      obtain ⟨b, hb, hcb⟩ := hown us rfl
      cases hb
      exact ⟨a', its, rfl, hM', hl'.at fun o e => a.keep _ o (h3 _ hcb) e, VRs.but hkm hp rs⟩

theorem compL_plain {put : V → Sto → Option Sto} {cond : Sto → Option Bool} {elt : Sto → Option V} : ∀ {vs : List V} {σ : Sto} {out : List V}, compL put cond elt vs σ = some out → plains out = true
  | [], _, _, e => by cases e; rfl
  | v :: vs, σ, out, e => by
    unfold compL at e
    split at e
    · cases e
    · split at e
      · cases e
      · exact compL_plain e
      · split at e
        · cases e
        · split at e
          · rename_i hp
            obtain ⟨r, hr, rfl⟩ := Option.map_eq_some_iff.mp e
            unfold plains
            rw [hp, compL_plain hr]; rfl
          · cases e
theorem plains_append : ∀ {a b : List V}, plains (a ++ b) = (plains a && plains b)
  | [], b => by simp [plains]
  | x :: a, b => by rw [List.cons_append, plains, plains, plains_append, Bool.and_assoc]

theorem drop_at {vs : List V} {i : Nat} {v : V} (h : vs[i]? = some v) : vs.drop i = v :: vs.drop (i + 1) := by
  obtain ⟨hi, e⟩ := List.getElem?_eq_some_iff.mp h
  rw [List.drop_eq_getElem_cons hi, e]

theorem next_mono {it : Value} {tg : Expr} {Qn : Shared → Prop} {Qs : Value → Shared → Prop} {E : Value → Shared → Prop}
    (h : wpAny (model prog w) A (pyNext it) (fun r s₁ => ∃ x, r = some x ∧ wpAny (model prog w) A (letOwnedTupleGo tg it x) (fun _ s₂ => Qs x s₂) E s₁) E s) :
    wpAny (model prog w) A (pyNext it) (fun r s₁ => match r with | none => Qn s₁ | some v => wpAny (model prog w) A (letOwnedTupleGo tg it v) (fun _ s₂ => Qs v s₂) E s₁) E s :=
  wpAny_mono h (fun r s₁ ⟨x, hx, hw⟩ => by subst hx; exact hw) fun _ _ e => e

structure CI (C : Cx prog w) (M' : Gh) (Ch' : Pr) (nm' : List Str) (sn' : Nms) (n' : Nat) (env' : Env) (acc : Addr) (final : List V) (s : Shared) (L : Nat) (st : Nat → Shared → Prop) (cl : Nat → Sto → Option (List V)) (i : Nat) (σ' : Sto) (ys : Array Value) (res rest : List V) (Mi : Gh) (s' : Shared) : Prop where
  hi : i ≤ L
  hst : st i s'
  gi : M'.le Mi
  hf : FS C Mi Ch' nm' sn' n' env' σ' s'
  hl : s'.heap.PlainList acc ys
  hr : VRs Mi s'.heap res ys.toList
  hpr : plains res = true
  hrl : res.length ≤ i
  hcomp : cl i σ' = some rest
  hfinal : final = res ++ rest
  hadv : AdvE s s'

theorem comp_core (f : FS C M Ch nm sn n env σ s) (hh : A.handled = none) {sc : Scope} {nm' : List Str} {cap : List Nat} {t : T} {two : Bool} {itE eltE : Expr} {ifsE : List Expr} {pos p : Pos} {vs : List V} {cs : Sto} {final : List V}
    {condF : Sto → Option Bool} {eltF : Sto → Option V} {use : Option (Value → Sem Unit)} {s0 : Shared} (hs : ScOK nm sn sc nm' cap (nT t)) (hcs : caps σ cap = some cs) (htw : TgOk two (deT nm' t))
    (hfold : ∀ x, foldedSetIterable itE env x = pure x) (Q E : Value → Shared → Prop)
    (hit : ∀ (Q E : Value → Shared → Prop), (∀ s₁ itv W s₂ M₁, M.le M₁ → Tb M₁ s₁.toks → AdvE s s₁ → ItMade prog w A two vs M₁ s₁ itv W s₂ → Q itv s₂) → wpAny (model prog w) A (eval itE env) (fun x s₁ => wpAny (model prog w) A (pyIter x) Q E s₁) E s0)
    (hc : ∀ (M' : Gh) (Ch' : Pr) env' σ' s' b, FS C M' Ch' nm' (relab sn sc.names) (nT t) env' σ' s' → condF σ' = some b → ∀ (Q : Bool → Shared → Prop) (E : Value → Shared → Prop), (∀ s'' M'', M'.le M'' → Tb M'' s''.toks → AdvE s' s'' → Q b s'') →
      wpAny (model prog w) A (forIn ifsE true fun c r => if r = true then do let ok ← isTrue c env' (eval c env'); pure (ForInStep.yield ok) else pure (ForInStep.yield r)) Q E s')
    (he : ∀ (M' : Gh) (Ch' : Pr) env' σ' s' v, FS C M' Ch' nm' (relab sn sc.names) (nT t) env' σ' s' → eltF σ' = some v → EvAt prog w A M' (eval eltE env') v s')
    (hv : compL (putT (nT t) t) condF eltF vs (List.replicate (nT t) none ++ cs) = some final) (hlen : vs.length ≤ lim)
    (hfin : ∀ (acc L : Addr) s'' τ', (∀ t u, M.τ t = some u → τ' t = some u) → Tb ⟨M.m, τ'⟩ s''.toks → AdvE s s'' → s.heap.get? L = none → (∃ m, s''.heap.Ns L m) → VR ⟨fun b => M.m b ∨ b = L, τ'⟩ s''.heap (.lst final) (.ref acc) → compPost (model prog w) A E use Q (.ref acc) L (.ok .next) s'') :
    wpAny (model prog w) A (comprehension (.ListComp eltE [⟨deT nm' t, itE, ifsE, 0⟩] sc pos) sc env p (newList []) false (eval itE env) use) Q E s0 := by
  have hlim := lim_le
  have hfree : ∀ x ∈ sc.names, x.2 = .free → ∃ c, env.cells.lookup x.1 = some c := fun x hx hk => by
    obtain ⟨_, h2, i, hi, hn⟩ := hs.fre x hx hk
    obtain ⟨m, _, hv⟩ := f.vals
    obtain ⟨y, hl, _⟩ := hv i hi
    rw [hn] at hl
    rcases hl with ⟨h, _⟩ | ⟨_, c, hc, _⟩
    · rw [h2] at h; cases h
    · exact ⟨c, hc⟩
  refine wpAny_comprehension_free rfl hfold (closureFor_ok hfree) hs.kind hs.loc (hit _ _ fun s₁ itv W s₂ M₁ g₁ hb₁ a₁ im => ?_)
  have a₂ : AdvE s s₂ := a₁.trans im.adv
  refine wpAny_newList (items := []) ?_ (by size_fits)
  have ha3 : AdvE s₂ { s₂ with heap := s₂.heap.push { cls := .type "list", data := .seq ([] : List Value).toArray } } := AdvE.push
  have hacc₃ : (s₂.heap.push { cls := .type "list", data := .seq ([] : List Value).toArray }).PlainList s₂.heap.objs.size #[] := ⟨0, Heap.get?_push_size _ rfl⟩
  have hz₃ : (s₂.heap.push { cls := .type "list", data := .seq ([] : List Value).toArray }).objs.size = s₂.heap.objs.size + 1 := Heap.size_push ..
  generalize hs3 : ({ s₂ with heap := s₂.heap.push { cls := .type "list", data := .seq ([] : List Value).toArray } } : Shared) = s₃ at ha3 ⊢
  have hz₃ : s₃.heap.objs.size = s₂.heap.objs.size + 1 := by rw [← hs3]; exact hz₃
  have hacc₃ : s₃.heap.PlainList s₂.heap.objs.size #[] := by rw [← hs3]; exact hacc₃
  generalize hacc : s₂.heap.objs.size = acc at hz₃ hacc₃ ⊢
  have a₃ : AdvE s s₃ := a₂.trans ha3
  refine new_comp_env ?_
  have hWlt : ∀ b, W b → b < acc := fun b hb => by
    obtain ⟨o, ho⟩ := (im.fresh b hb).2
    rw [← hacc]; exact Heap.lt_size ho
  have hWfr : ∀ b, W b → s.heap.get? b = none := fun b hb => a₁.none_of (im.fresh b hb).1
  have haccfr : ∀ b, acc ≤ b → s.heap.get? b = none := fun b hb => a₂.old_none (by rw [hacc]; exact hb)
  have hM₀ : Al (fun b => M.m b ∨ W b ∨ b = acc) s₃.heap := fun b hb => by
    rcases hb with hb | hb | rfl
    · obtain ⟨o, ho⟩ := f.al b hb; exact ⟨o, a₃.st b o ho⟩
    · obtain ⟨o, ho⟩ := (im.fresh b hb).2; exact ⟨o, ha3.st b o ho⟩
    · obtain ⟨k, ho⟩ := hacc₃; exact ⟨_, ho⟩
  obtain ⟨cells', _, hcells', hin⟩ := FS.inner f hs hcs a₃ (M₀ := fun b => M.m b ∨ W b ∨ b = acc) (τ := M₁.τ) hM₀ (fun b hb => Or.inl hb) g₁.τ (fun t ht => hb₁.mono (Nat.le_trans im.adv.toks ha3.toks) t ht) (fun b hb => by
    rcases hb with hb | hb | rfl
    · exact Or.inl hb
    · exact Or.inr (hWfr b hb)
    · exact Or.inr (haccfr _ (Nat.le_refl _)))
  rw [← hcells']
  generalize henv : ({ newEnv sc s₃.heap.objs.size env.globals cells' env.qual none .none (some env) builtinsNs with scope := relabel sc env } : Env) = env' at hin ⊢
  obtain ⟨Ch', hCh⟩ : ∃ x : Pr, x = fun b => b = s₃.heap.objs.size ∨ ∃ id, (id, NameKind.cell) ∈ sc.names ∧ cells'.lookup id = some b := ⟨_, rfl⟩
  obtain ⟨hge, hcm, a₄, f₄⟩ := hin _ Ch' rfl hCh
  generalize hs4 : ({ s₃ with heap := pushCells (s₃.heap.push { cls := .type "dict", data := .dict #[] }) sc.names } : Shared) = s₄ at a₄ f₄ ⊢
  have hL : (newEnv sc s₃.heap.objs.size env.globals cells' env.qual none .none (some env) builtinsNs).locals = s₃.heap.objs.size := rfl
  rw [hL]
  have hL' : env'.locals = s₃.heap.objs.size := by rw [← henv]; rfl
  have a₄s : AdvE s s₄ := a₃.trans a₄
  obtain ⟨M', hMg⟩ : ∃ x : Gh, (⟨fun b => (M.m b ∨ W b ∨ b = acc) ∨ Ch' b, M₁.τ⟩ : Gh) = x := ⟨_, rfl⟩
  replace f₄ : FS C M' Ch' nm' (relab sn sc.names) (nT t) env' (List.replicate (nT t) none ++ cs) s₄ := by rw [← hMg]; exact f₄
  have hM'm : ∀ b, M.m b → M'.m b := fun b hb => by rw [← hMg]; exact Or.inl (Or.inl hb)
  have hM'w : ∀ b, W b → M'.m b := fun b hb => by rw [← hMg]; exact Or.inl (Or.inr (Or.inl hb))
  have hM'a : M'.m acc := by rw [← hMg]; exact Or.inl (Or.inr (Or.inr rfl))
  have hM'c : ∀ b, Ch' b → M'.m b := fun b hb => by rw [← hMg]; exact Or.inr hb
  have hM'of : ∀ b, M'.m b → M₁.m b ∨ s₁.heap.get? b = none := fun b hb => by
    rw [← hMg] at hb
    rcases hb with (hb | hb | rfl) | hb
    · exact Or.inl (by rw [g₁.m]; exact hb)
    · exact Or.inr (im.fresh b hb).1
    · exact Or.inr (im.adv.old_none (by rw [hacc]; exact Nat.le_refl _))
    · exact Or.inr ((im.adv.trans ha3).old_none (hge b hb))
  obtain ⟨st, Kn, st0⟩ := im.ok M' hM'w hM'of (by rw [← hMg]; exact fun _ _ e => e)
  have K := Kn s₁.gens.size
  have hChne : ∀ b, Ch' b → ¬ W b ∧ b ≠ acc := fun b hb => ⟨fun z => absurd (hWlt b z) (Nat.not_lt.mpr (Nat.le_trans (by rw [hz₃]; exact Nat.le_succ _) (hge b hb))), fun z => by have := hge b hb; rw [z, hz₃] at this; exact absurd this (Nat.not_le.mpr (Nat.lt_succ_self _))⟩
  have hChfr : ∀ b, Ch' b → s.heap.get? b = none := fun b hb => a₃.old_none (hge b hb)
  have hOld : ∀ b, s.heap.get? b = none → ¬ C.Old b := fun b hb ho => by
    obtain ⟨o, ho⟩ := C.live _ f.g b ho
    rw [hb] at ho; cases ho
  have st4 : st 0 s₄ := K.keep 0 s₂ s₄ st0 (fun b o _ e => a₄.st b o (ha3.st b o e))
  -- a captured cell is neither the iterator nor the new list
  have hcells : ∀ i c, i < nm'.length → (relab sn sc.names).lookup (nmAt nm' i) ≠ some .local → env'.cells.lookup (nmAt nm' i) = some c → ¬ W c ∧ c ≠ acc := fun i c hi hl hc' => by
    rcases hcm i c hi hl hc' with h | h
    · obtain ⟨o, ho⟩ := f.al c h
      exact ⟨fun z => (by rw [hWfr c z] at ho; cases ho), fun z => (by rw [haccfr c (by rw [z]; exact Nat.le_refl _)] at ho; cases ho)⟩
    · exact hChne c h
  have hfp : plains final = true := compL_plain hv
  -- the loop
  have hloop : codeAny (model prog w) A (.compLoop (.ListComp eltE [⟨deT nm' t, itE, ifsE, 0⟩] sc pos) 0 itv (.ref acc) env') (compPost (model prog w) A E use Q (.ref acc) s₃.heap.objs.size) s₄ := by
    refine compLoop_any (fun k s' => ∃ i σ' ys res rest Mi, k = vs.length + 1 - i ∧ CI C M' Ch' nm' (relab sn sc.names) (nT t) env' acc final s vs.length st (fun i σ' => compL (putT (nT t) t) condF eltF (vs.drop i) σ') i σ' ys res rest Mi s') ?_ (vs.length + 1)
      ⟨0, _, #[], [], final, M', rfl, Nat.zero_le _, st4, .refl, f₄, hacc₃.at fun o e => a₄.st _ o e, rfl, rfl, Nat.le_refl _, hv, rfl, a₄s⟩
    rintro k s' ⟨i, σ', ys, res, rest, Mi, rfl, hi, hst, gi, hf, hl, hr, hpr, hrl, hcomp, hfinal, hadv⟩
    have him : ∀ b, ¬ Mi.m b → ¬ M'.m b := fun b h => by rw [← gi.m]; exact h
    have hal : Al M'.m s'.heap := by rw [← gi.m]; exact hf.al
    cases hvi : vs[i]? with
    | none =>
      refine K.done i s' _ _ hvi hst hi hal hf.t fun s'' aw => ?_
      have hie : i = vs.length := Nat.le_antisymm hi (List.getElem?_eq_none_iff.mp hvi)
      rw [List.drop_of_length_le (Nat.le_of_eq hie.symm)] at hcomp
      cases hcomp
      rw [List.append_nil] at hfinal
      subst hfinal
      have adv : AdvE s s'' := hadv.transW aw a₁.gsz hWfr
      obtain ⟨m, hn, _⟩ := hf.vals
      have hkm : Kp Mi.m s'.heap s''.heap := fun b o hb e => aw.keep b o (fun z => him b hb (hM'w b z)) e
      refine hfin acc s₃.heap.objs.size s'' Mi.τ (fun t u e => gi.τ t u (by rw [← hMg]; exact g₁.τ t u e)) (fun t ht => Nat.lt_of_lt_of_le (hf.tb t ht) aw.toks) adv (a₃.old_none (Nat.le_refl _)) ⟨m, ?_⟩ ?_
      · rw [← hL']; exact hn.at fun o e => aw.keep _ o (fun z => (hChne _ hf.loc).1 z) e
      · refine ⟨acc, ys, rfl, ?_, hl.at fun o e => aw.keep _ o (fun z => Nat.lt_irrefl _ (hWlt _ z)) e, VRs.less (M := Mi) (M' := ⟨fun b => M.m b ∨ b = s₃.heap.objs.size, Mi.τ⟩) (fun b hb => ?_) (fun _ _ e => e) hpr (VRs.but hkm hpr hr)⟩
        · intro z
          rcases z with z | z
          · obtain ⟨o, ho⟩ := f.al _ z
            rw [haccfr acc (Nat.le_refl _)] at ho; cases ho
          · rw [hz₃] at z; exact absurd z (Nat.ne_of_lt (Nat.lt_succ_self _))
        · rcases hb with hb | rfl
          · exact Or.inl (by rw [gi.m]; exact hM'm b hb)
          · exact Or.inl (by rw [← hL']; exact hf.ml)
    | some v =>
      rw [drop_at hvi] at hcomp
      unfold compL at hcomp
      split at hcomp
      · cases hcomp
      rename_i σ₂ hput
      refine next_mono (K.next i s' v _ _ _ htw hvi hst hal hf.t fun x sa aa rx sta => ?_)
      have fa := hf.away aa (fun b hb => by rw [gi.m]; exact hM'w b hb) (fun b hb => hOld b (hWfr b hb)) (fun b hb => (hChne b hb).1) (fun i c hi hl hc' => (hcells i c hi hl hc').1)
      have ada : AdvE s sa := Adv.trans hadv aa a₁.gsz fun x hx => Or.inr (hWfr x hx)
      have hla : sa.heap.PlainList acc ys := hl.at fun o e => aa.keep _ o (fun z => Nat.lt_irrefl _ (hWlt _ z)) e
      have hra : VRs Mi sa.heap res ys.toList := VRs.but (fun b o hb e => aa.keep b o (fun z => him b hb (hM'w b z)) e) hpr hr
      refine fa.assign hh hput (rx.up gi) _ _ fun sb ab fb => ?_
      have adb : AdvE s sb := Adv.trans ada ab ada.gsz fun x hx => Or.inr (hChfr x hx)
      have hkb : ∀ b o, (W b ∨ ¬ M'.m b) → sa.heap.get? b = some o → sb.heap.get? b = some o := fun b o hb e => ab.keep b o (fun z => hb.elim (hChne b z).1 (fun q => q (hM'c b z))) e
      have stb : st (i + 1) sb := K.keep _ sa sb sta hkb
      have hlb : sb.heap.PlainList acc ys := hla.at fun o e => ab.keep _ o (fun z => (hChne _ z).2 rfl) e
      have hrb : VRs Mi sb.heap res ys.toList := VRs.but (fun b o hb e => ab.keep b o (fun z => him b hb (hM'c b z)) e) hpr hra
      have stE : ∀ {s₁ s₂ : Shared}, st (i + 1) s₁ → AdvE s₁ s₂ → st (i + 1) s₂ := fun {s₁ s₂} h a => K.keep _ _ _ h (fun b o _ e => a.st b o e)
      split at hcomp
      · cases hcomp
      · rename_i hcond
        refine hc Mi Ch' env' σ₂ sb false fb hcond _ _ fun sd Md gd hbd ad => ?_
        rw [if_neg (by decide)]
        have hlt : i < vs.length := (List.getElem?_eq_some_iff.mp hvi).1
        exact ⟨vs.length + 1 - (i + 1), Nat.sub_lt_sub_left (Nat.lt_succ_of_lt hlt) (Nat.lt_succ_self i), i + 1, σ₂, ys, res, rest, Md, rfl, hlt, stE stb ad, gi.trans gd, fb.adv gd hbd ad, hlb.at fun o e => ad.st _ o e, VRs.up gd (VRs.keep ad.st hrb), hpr, Nat.le_succ_of_le hrl, hcomp, hfinal, adb.trans ad⟩
      · rename_i hcond
        refine hc Mi Ch' env' σ₂ sb true fb hcond _ _ fun sd Md gd hbd ad => ?_
        rw [if_pos rfl]
        split at hcomp
        · cases hcomp
        · rename_i y hy
          split at hcomp
          · rename_i hyp
            obtain ⟨rest', hrest, rfl⟩ := Option.map_eq_some_iff.mp hcomp
            refine he Md Ch' env' σ₂ sd y (fb.adv gd hbd ad) hy _ _ fun yv se Me ge hbe ae ry => ?_
            have gie : M'.le Me := (gi.trans gd).trans ge
            have hie : ∀ b, ¬ Me.m b → ¬ M'.m b := fun b h => by rw [← gie.m]; exact h
            have hlt : i < vs.length := (List.getElem?_eq_some_iff.mp hvi).1
            have hle : se.heap.PlainList acc ys := (hlb.at fun o e => ad.st _ o e).at fun o e => ae.st _ o e
            have hre : VRs Me se.heap res ys.toList := VRs.up ge (VRs.keep ae.st (VRs.up gd (VRs.keep ad.st hrb)))
            have fe := (fb.adv gd hbd ad).adv ge hbe ae
            refine wpAny_list_append_plain hle (fun h' hl' hs' => ?_) ?_
            · have hsb : Heap.SameBut acc se.heap h' := hs'
              have hadd : Adv (fun b => b = acc) se.gens.size se { se with heap := h' } := Adv.same (k := se.toks) rfl hsb (let ⟨k, ho⟩ := hl'; ⟨_, ho⟩) (Nat.le_refl _)
              have hkm : Kp Me.m se.heap h' := fun b o hb e => hadd.keep b o (fun z => hie b hb (z ▸ hM'a)) e
              refine ⟨vs.length + 1 - (i + 1), Nat.sub_lt_sub_left (Nat.lt_succ_of_lt hlt) (Nat.lt_succ_self i), i + 1, σ₂, ys.push yv, res ++ [y], rest', Me, rfl, hlt, ?_, gie, ?_, hl', ?_, ?_, ?_, hrest, by rw [hfinal, List.append_assoc]; rfl, ?_⟩
              · refine K.keep _ se _ (stE (stE stb ad) ae) (fun b o hb e => hadd.keep b o (fun z => ?_) e)
                rcases hb with hb | hb
                · exact absurd (hWlt b hb) (by rw [z]; exact Nat.lt_irrefl _)
                · exact hb (z ▸ hM'a)
              · exact fe.away hadd (fun b hb => by rw [gie.m, hb]; exact hM'a) (fun b hb => hOld b (haccfr b (by rw [hb]; exact Nat.le_refl _))) (fun b hb => (hChne b hb).2) (fun i c hi hl hc' => (hcells i c hi hl hc').2)
              · rw [Array.toList_push]
                exact VRs.append (VRs.but hkm hpr hre) ⟨yv, [], rfl, VR.but hkm hyp ry, rfl⟩
              · rw [plains_append, hpr]; simp [plains, hyp]
              · rw [List.length_append, List.length_singleton]; exact Nat.succ_le_succ hrl
              · exact Adv.trans ((adb.trans ad).trans ae) hadd ((adb.trans ad).trans ae).gsz fun x hx => Or.inr (haccfr x (by rw [hx]; exact Nat.le_refl _))
            · have := VRs.size hre
              rw [this]; lia
          · cases hcomp
  exact codeAny_compStart_list hloop (K.self 0 s₄ _ _ st4 hloop)

end Mine

namespace Mine
open PySem PySem.W PySem.Calls PyProof.Rows

variable {prog : Program} {w : World} {C : Cx prog w} {M : Gh} {Ch : Pr} {nm : List Str} {sn : Nms} {n : Nat} {env : Env} {σ : Sto} {s s' : Shared} {A : Around}

/-- a test's truth, with what it may add on the side -/
noncomputable def TrM (prog : Program) (w : World) (A : Around) (M : Gh) (t : Sem Bool) (b : Bool) (s : Shared) : Prop :=
  ∀ (Q : Bool → Shared → Prop) (E : Value → Shared → Prop), (∀ s' M', M.le M' → Tb M' s'.toks → AdvE s s' → Q b s') → wpAny (model prog w) A t Q E s

theorem is_str {x y : Str} {t u : Tok} (hs : ∃ mc, s.heap.Ns cStatics mc ∧ mc sharingNotToldKey = none) (ht : t ≠ 0 ∧ M.τ t = some x) (hu : u ≠ 0 ∧ M.τ u = some y) (Q E : Value → Shared → Prop)
    (h : ∀ b, (b = true → x = y) → Q (.bool b) s) : wpAny (model prog w) A (compareOp .Is (.str x t) (.str y u)) Q E s := by
  show wpAny _ _ (isSame (.str x t) (.str y u) >>= fun r => pure (.bool r)) Q E s
  have h0 : (t == 0 || u == 0) = false := by simp [ht.1, hu.1]
  by_cases e : x = y
  · exact wpAny_bind (wpAny_isSame_str h0 hs fun b => wpAny_pure (h b fun _ => e))
  · have htu : (t == u) = false := by
      cases q : t == u with
      | false => rfl
      | true =>
        have := eq_of_beq q
        subst this
        have := ht.2.symm.trans hu.2
        cases this; exact absurd rfl e
    rw [isSame_str_other x y t u h0 htu (by simpa using e)]
    exact wpAny_bind (wpAny_pure (wpAny_pure (h false fun z => nomatch z)))

noncomputable def nameOk (nm : List Str) (i : Nat) : Bool := (nmAt nm i == ("__debug__" : Str)) == false && (nmAt nm i == ("__classdict__" : Str)) == false
noncomputable def glOk (sn : Nms) (id : Str) : Bool := sn.lookup id == some .globalImplicit && (id == ("__debug__" : Str)) == false
noncomputable def okObj : X → Bool
  | .var .. => true
  | .cstr .. => true
  | _ => false
noncomputable def lenL : XL → Nat
  | .nil => 0
  | .cons _ xs => lenL xs + 1
noncomputable def isT2 : T → Bool
  | .t2 .. => true
  | .t1 .. => false
noncomputable def itTwo : It → Bool
  | .enm .. => true
  | _ => false

mutual
noncomputable def wfX (nm : List Str) (sn : Nms) : X → Bool
  | .var _ i => nameOk nm i
  | .gname _ id => glOk sn id
  | .cint _ _ => true
  | .neg _ _ _ => true
  | .cstr _ _ => true
  | .cbool _ _ => true
  | .cnone _ => true
  | .bin _ _ a b => wfX nm sn a && wfX nm sn b
  | .cmp _ _ a b => wfX nm sn a && wfX nm sn b
  | .chain _ _ _ a b c => wfX nm sn a && wfX nm sn b && wfX nm sn c
  | .boo _ _ a b => wfX nm sn a && wfX nm sn b
  | .iseq _ _ _ _ _ _ _ i j => nameOk nm i && nameOk nm j
  | .not_ _ a => wfX nm sn a
  | .ite _ c a b => wfX nm sn c && wfX nm sn a && wfX nm sn b
  | .gcall _ _ id args => glOk sn id && wfL nm sn args && decide (0 < lenL args)
  | .bcall _ _ id args => glOk sn id && wfL nm sn args && decide (0 < lenL args) && (["len", "min", "max", "sum", "sorted"] : List Str).contains id
  | .meth p q o _ args => wfX nm sn o && wfL nm sn args && decide (0 < lenL args) && decide (lenL args < 20) && okObj o && ((ps q).endLine == (ps p).line)
  | .repl p q o _ _ _ _ => wfX nm sn o && okObj o && ((ps q).endLine == (ps p).line)
  | .idx _ a i => wfX nm sn a && wfX nm sn i
  | .slc _ _ a l h => wfX nm sn a && wfX nm sn l && wfX nm sn h
  | .slf _ _ a l => wfX nm sn a && wfX nm sn l
  | .tup _ args => wfL nm sn args
  | .lst _ args => wfL nm sn args
  | .dict _ _ _ => true
  | .comp _ sc nm' cap t it cond elt => okSc nm sn sc nm' cap (nT t) && wfI nm sn it && (!itTwo it || isT2 t) && wfC nm' (relab sn sc.names) cond && wfX nm' (relab sn sc.names) elt
noncomputable def wfL (nm : List Str) (sn : Nms) : XL → Bool
  | .nil => true
  | .cons x xs => wfX nm sn x && wfL nm sn xs
noncomputable def wfI (nm : List Str) (sn : Nms) : It → Bool
  | .val x => wfX nm sn x
  | .own _ i => nameOk nm i
  | .rng _ _ x => wfX nm sn x && glOk sn "range"
  | .enm _ _ x => wfX nm sn x && glOk sn "enumerate"
  | .gen _ _ id x => wfX nm sn x && glOk sn id
noncomputable def wfC (nm : List Str) (sn : Nms) : Cd → Bool
  | .none => true
  | .some x => wfX nm sn x
end

noncomputable def trs (nm : List Str) (env : Env) : XL → List (Bool × Sem Value)
  | .nil => []
  | .cons x xs => (false, eval (deX nm x) env) :: trs nm env xs
theorem star_cons (x : X) (rest : List Expr) : starEach (deX nm x :: rest) env = (false, eval (deX nm x) env) :: starEach rest env := by
  cases x <;> rfl
theorem star_trs : ∀ xs : XL, starEach (deL nm xs) env = trs nm env xs
  | .nil => rfl
  | .cons x xs => by
    show starEach (deX nm x :: deL nm xs) env = _
    rw [star_cons, star_trs xs]; rfl
theorem trs_plain : ∀ xs : XL, (trs nm env xs).any (·.1) = false
  | .nil => rfl
  | .cons x xs => by
    show (false || (trs nm env xs).any (·.1)) = false
    rw [trs_plain xs]; rfl
theorem trs_all : ∀ xs : XL, (trs nm env xs).all (fun x => !x.1) = true
  | .nil => rfl
  | .cons x xs => by
    show (true && (trs nm env xs).all (fun x => !x.1)) = true
    rw [trs_all xs]; rfl
theorem back_trs (pos : Pos) : ∀ xs : XL, backTo pos (trs nm env xs) = trs nm env xs
  | .nil => rfl
  | .cons x xs => by
    have ih := back_trs pos xs
    unfold backTo at ih ⊢
    unfold trs
    rw [List.map_cons, ih]
    simp
theorem back_star (pos : Pos) (xs : XL) : backTo pos (starEach (deL nm xs) env) = trs nm env xs := by rw [star_trs, back_trs]
theorem lenL_eq : ∀ xs : XL, (deL nm xs).length = lenL xs
  | .nil => rfl
  | .cons x xs => by
    show (deL nm xs).length + 1 = _
    rw [lenL_eq xs]; rfl
theorem marks_ok (op : CmpOp) (x : X) : behindInMarks op (deX nm x) = false := by cases x <;> rfl
theorem fold_ok (it : It) (x : Value) : foldedSetIterable (deI nm it) env x = pure x := by
  cases it with
  | val e => cases e <;> rfl
  | _ => rfl
theorem base_ok {o : X} (h : okObj o = true) (name : Str) : attributeBase (deX nm o) name env (eval (deX nm o) env) = eval (deX nm o) env := by
  cases o <;> first | rfl | (simp [okObj] at h)

/-- the truth of what is no test of its own -/
theorem leaf_true {e : Expr} {o : Option V} (he : isTrue e env (eval e env) = (do let v ← eval e env; standAt e.pos; holding [v] (truthy v)))
    (h : ∀ v, o = some v → EvAt prog w A M (eval e env) v s) : ∀ r, tm true o = some r → ∃ b, r = .bool b ∧ TrM prog w A M (isTrue e env (eval e env)) b s := by
  intro r hr
  unfold tm at hr
  simp only [if_true] at hr
  obtain ⟨v, hv, hr⟩ := Option.bind_eq_some_iff.mp hr
  obtain ⟨b, hb, rfl⟩ := Option.map_eq_some_iff.mp hr
  refine ⟨b, rfl, fun Q E q => isTrue_plain (h v hv _ _ fun x s' M' g hb' a rx => truthV_ok hb rx _ _ fun s'' a' => q s'' M' g (hb'.mono a'.toks) (a.trans a')) he⟩

end Mine

namespace Mine
open PySem PySem.W PySem.Calls PyProof.Rows

variable {prog : Program} {w : World} {C : Cx prog w} {A : Around}

noncomputable def PX (C : Cx prog w) (A : Around) (x : X) : Prop := ∀ (nm : List Str) (sn : Nms) (n : Nat) (M : Gh) (Ch : Pr) (env : Env) (σ : Sto) (s : Shared), wfX nm sn x = true → FS C M Ch nm sn n env σ s →
  (∀ v, ev C.K x false σ = some v → EvAt prog w A M (eval (deX nm x) env) v s) ∧
  (∀ r, ev C.K x true σ = some r → ∃ b, r = .bool b ∧ TrM prog w A M (isTrue (deX nm x) env (eval (deX nm x) env)) b s)
noncomputable def PL (C : Cx prog w) (A : Around) (xs : XL) : Prop := ∀ (nm : List Str) (sn : Nms) (n : Nat) (M : Gh) (Ch : Pr) (env : Env) (σ : Sto) (s : Shared), wfL nm sn xs = true → FS C M Ch nm sn n env σ s →
  ∀ vs, evL C.K xs σ = some vs → ∀ (Q : List Value → Shared → Prop) (E : Value → Shared → Prop), (∀ ys s' M', M.le M' → Tb M' s'.toks → AdvE s s' → VRs M' s'.heap vs ys → Q ys s') → wpAny (model prog w) A (spliced (trs nm env xs)) Q E s
noncomputable def PI (C : Cx prog w) (A : Around) (it : It) : Prop := ∀ (nm : List Str) (sn : Nms) (n : Nat) (M : Gh) (Ch : Pr) (env : Env) (σ : Sto) (s : Shared), wfI nm sn it = true → FS C M Ch nm sn n env σ s →
  ∀ vs, evI C.K it σ = some vs → ∀ (Q E : Value → Shared → Prop), (∀ s₁ itv W s₂ M₁, M.le M₁ → Tb M₁ s₁.toks → AdvE s s₁ → ItMade prog w A (itTwo it) vs M₁ s₁ itv W s₂ → Q itv s₂) →
    wpAny (model prog w) A (eval (deI nm it) env) (fun x s₁ => wpAny (model prog w) A (pyIter x) Q E s₁) E s
noncomputable def PC (C : Cx prog w) (A : Around) (c : Cd) : Prop := ∀ (nm : List Str) (sn : Nms) (n : Nat) (M : Gh) (Ch : Pr) (env : Env) (σ : Sto) (s : Shared), wfC nm sn c = true → FS C M Ch nm sn n env σ s →
  ∀ b, evC C.K c σ = some b → TrM prog w A M (forIn (deC nm c) true fun c r => if r = true then do let ok ← isTrue c env (eval c env); pure (ForInStep.yield ok) else pure (ForInStep.yield r)) b s

theorem tm_false (o : Option V) : tm false o = o := rfl

/-- a node that is no test -/
theorem px_leaf {x : X} (o : Sto → Option V) (ho : ∀ m σ, ev C.K x m σ = tm m (o σ))
    (he : ∀ nm env, isTrue (deX nm x) env (eval (deX nm x) env) = (do let v ← eval (deX nm x) env; standAt (deX nm x).pos; holding [v] (truthy v)))
    (h : ∀ (nm : List Str) (sn : Nms) (n : Nat) (M : Gh) (Ch : Pr) (env : Env) (σ : Sto) (s : Shared), wfX nm sn x = true → FS C M Ch nm sn n env σ s → ∀ v, o σ = some v → EvAt prog w A M (eval (deX nm x) env) v s) : PX C A x := by
  intro nm sn n M Ch env σ s hw f
  refine ⟨fun v hv => h nm sn n M Ch env σ s hw f v (by rw [ho] at hv; exact hv), fun r hr => ?_⟩
  rw [ho] at hr
  exact leaf_true (he nm env) (h nm sn n M Ch env σ s hw f) r hr

theorem ev2 {nm : List Str} {sn : Nms} {n : Nat} {M : Gh} {Ch : Pr} {env : Env} {σ : Sto} {s : Shared} {a b : X} {x y : V} (f : FS C M Ch nm sn n env σ s) (wa : wfX nm sn a = true) (wb : wfX nm sn b = true) (ha : PX C A a) (hb : PX C A b)
    (hx : ev C.K a false σ = some x) (hy : ev C.K b false σ = some y) (Q : Value → Value → Shared → Prop) (E : Value → Shared → Prop)
    (h : ∀ xv yv s' M', M.le M' → FS C M' Ch nm sn n env σ s' → AdvE s s' → VR M' s'.heap x xv → VR M' s'.heap y yv → Q xv yv s') :
    wpAny (model prog w) A (eval (deX nm a) env) (fun xv s₁ => wpAny (model prog w) A (eval (deX nm b) env) (fun yv s₂ => Q xv yv s₂) E s₁) E s :=
  (ha nm sn n M Ch env σ s wa f).1 x hx _ _ fun xv s₁ M₁ g₁ t₁ a₁ r₁ => (hb nm sn n M₁ Ch env σ s₁ wb (f.adv g₁ t₁ a₁)).1 y hy _ _ fun yv s₂ M₂ g₂ t₂ a₂ r₂ =>
    h xv yv s₂ M₂ (g₁.trans g₂) ((f.adv g₁ t₁ a₁).adv g₂ t₂ a₂) (a₁.trans a₂) ((r₁.keep a₂.st).up g₂) r₂

theorem nameOk_ok {nm : List Str} {i : Nat} (h : nameOk nm i = true) : (nmAt nm i == ("__debug__" : Str)) = false ∧ (nmAt nm i == ("__classdict__" : Str)) = false := by
  simp only [nameOk, Bool.and_eq_true, beq_iff_eq] at h
  exact h

theorem px_var (p i : Nat) : PX C A (.var p i) := px_leaf (fun σ => σ.at i) (fun _ _ => rfl) (fun _ _ => rfl) fun nm sn n M Ch env σ s hw f v hv => by
  replace hw := nameOk_ok (nm := nm) (i := i) hw
  exact (f.var hv hw.1 hw.2).ev f.tb
theorem glOk_ok {sn : Nms} {id : Str} (h : glOk sn id = true) : sn.lookup id = some .globalImplicit ∧ (id == ("__debug__" : Str)) = false := by
  simp only [glOk, Bool.and_eq_true, beq_iff_eq] at h
  exact h
theorem FS.gkind {M : Gh} {Ch : Pr} {nm : List Str} {sn : Nms} {n : Nat} {env : Env} {σ : Sto} {s : Shared} (f : FS C M Ch nm sn n env σ s) {id : Str} (h : sn.lookup id = some .globalImplicit) : env.kindOf id = some .globalImplicit := by
  unfold Env.kindOf; rw [f.names]; exact h
theorem px_gname (p : Nat) (id : Str) : PX C A (.gname p id) := px_leaf (fun _ => C.K.glob id) (fun _ _ => rfl) (fun _ _ => rfl) fun nm sn n M Ch env σ s hw f v hv => by
  obtain ⟨h1, h2⟩ := glOk_ok hw
  exact fun Q E h => Name_function_global f.kind (f.gkind h1) ((C.gname id v hv M A env s f.gl f.bl f.g).ev f.tb Q E h) h2
theorem px_cint (p k : Nat) : PX C A (.cint p k) := px_leaf (fun _ => some (.int k)) (fun _ _ => rfl) (fun _ _ => rfl) fun nm sn n M Ch env σ s hw f v hv => by
  cases hv
  exact EvAt0.ev (fun Q E h => wpAny_Constant_int (h _ _ (AdvE.tok (Nat.le_succ _)) ⟨_, rfl⟩)) f.tb
theorem px_neg (p q k : Nat) : PX C A (.neg p q k) := px_leaf (fun _ => some (.int (-k))) (fun _ _ => rfl) (fun _ _ => rfl) fun nm sn n M Ch env σ s hw f v hv => by
  cases hv
  exact EvAt0.ev (fun Q E h => UnaryOp_ (wpAny_Constant_int (P.neg_int (h _ _ (AdvE.tok (s := s) (k := s.toks + 1 + 1) (by lia)) ⟨_, rfl⟩)))) f.tb
theorem px_cstr (p : Nat) (x : Str) : PX C A (.cstr p x) := px_leaf (fun _ => some (.str true x)) (fun _ _ => rfl) (fun _ _ => rfl) fun nm sn n M Ch env σ s hw f v hv => by
  cases hv
  exact fun Q E h => Constant_str (h _ _ (M.put s.toks x) (Gh.put_le f.tb) (Gh.put_tb f.tb) (AdvE.tok (Nat.le_succ _)) ⟨s.toks, rfl, fun _ => ⟨Nat.ne_of_gt f.t, Gh.put_at⟩⟩)
theorem px_cbool (p : Nat) (b : Bool) : PX C A (.cbool p b) := px_leaf (fun _ => some (.bool b)) (fun _ _ => rfl) (fun _ _ => rfl) fun nm sn n M Ch env σ s hw f v hv => by
  cases hv
  exact EvAt0.ev (fun Q E h => Constant_bool (h _ _ Adv.refl rfl)) f.tb
theorem px_cnone (p : Nat) : PX C A (.cnone p) := px_leaf (fun _ => some .none) (fun _ _ => rfl) (fun _ _ => rfl) fun nm sn n M Ch env σ s hw f v hv => by
  cases hv
  exact EvAt0.ev (fun Q E h => Constant_none (h _ _ Adv.refl rfl)) f.tb
theorem px_bin (p : Nat) (op : Operator) {a b : X} (ha : PX C A a) (hb : PX C A b) : PX C A (.bin p op a b) :=
  px_leaf (fun σ => (ev C.K a false σ).bind fun x => (ev C.K b false σ).bind fun y => binV op x y) (fun _ _ => rfl) (fun _ _ => rfl) fun nm sn n M Ch env σ s hw f v hv => by
  replace hw : (_ && _) = true := hw
  simp only [Bool.and_eq_true] at hw
  obtain ⟨x, hx, hv⟩ := Option.bind_eq_some_iff.mp hv
  obtain ⟨y, hy, hv⟩ := Option.bind_eq_some_iff.mp hv
  exact fun Q E h => wpAny_BinOp (ev2 f hw.1 hw.2 ha hb hx hy _ _ fun xv yv s' M' g f' a r₁ r₂ => binV_ok hv f'.tb f'.t f'.al r₁ r₂ _ _ fun z s₃ M₃ g₃ t₃ a₃ r₃ => h z s₃ M₃ (g.trans g₃) t₃ (a.trans a₃) r₃)

theorem px_cmp (hu : A.units < cLine) (p : Nat) (op : CmpOp) {a b : X} (ha : PX C A a) (hb : PX C A b) : PX C A (.cmp p op a b) := by
  intro nm sn n M Ch env σ s hw f
  replace hw : (_ && _) = true := hw
  simp only [Bool.and_eq_true] at hw
  have key : ∀ r, ((ev C.K a false σ).bind fun x => (ev C.K b false σ).bind fun y => (cmpV op x y).map V.bool) = some r → ∃ c, r = .bool c ∧ ∀ (Q : Value → Shared → Prop) (E : Value → Shared → Prop),
      (∀ s' M', M.le M' → Tb M' s'.toks → AdvE s s' → Q (.bool c) s') → wpAny (model prog w) A (eval (deX nm a) env) (fun xv s₁ => wpAny (model prog w) A (eval (deX nm b) env) (fun yv s₂ => wpAny (model prog w) A (compareOp op xv yv) Q E s₂) E s₁) E s := by
    intro r hr
    obtain ⟨x, hx, hr⟩ := Option.bind_eq_some_iff.mp hr
    obtain ⟨y, hy, hr⟩ := Option.bind_eq_some_iff.mp hr
    obtain ⟨c, hc, rfl⟩ := Option.map_eq_some_iff.mp hr
    exact ⟨c, rfl, fun Q E h => ev2 f hw.1 hw.2 ha hb hx hy _ _ fun xv yv s' M' g f' a r₁ r₂ => cmpV_ok hu hc r₁ r₂ _ _ (h s' M' g f'.tb a)⟩
  refine ⟨fun v hv => ?_, fun r hr => ?_⟩
  · obtain ⟨c, rfl, k⟩ := key v hv
    exact fun Q E h => wpAny_Compare1 (k _ _ fun s' M' g t a => h _ _ M' g t a rfl) (marks_ok op b)
  · obtain ⟨c, rfl, k⟩ := key r hr
    exact ⟨c, rfl, fun Q E h => wpAny_isTrue_Compare1 (k _ _ fun s' M' g t a => wpAny_truthy_bool (h _ M' g t a)) (marks_ok op b)⟩

theorem px_chain (hu : A.units < cLine) (p : Nat) (o1 o2 : CmpOp) {a b c : X} (ha : PX C A a) (hb : PX C A b) (hc : PX C A c) : PX C A (.chain p o1 o2 a b c) := by
  intro nm sn n M Ch env σ s hw f
  replace hw : (_ && _) = true := hw
  simp only [Bool.and_eq_true] at hw
  obtain ⟨⟨wa, wb⟩, wc⟩ := hw
  have hm : lastMarks [o1, o2] [deX nm b, deX nm c] = false := marks_ok o2 c
  have split : ∀ r, ((ev C.K a false σ).bind fun x => (ev C.K b false σ).bind fun y => (cmpV o1 x y).bind fun r => if r then (ev C.K c false σ).bind fun z => (cmpV o2 y z).map V.bool else some (.bool false)) = some r →
      ∃ x y r₁, ev C.K a false σ = some x ∧ ev C.K b false σ = some y ∧ cmpV o1 x y = some r₁ ∧ ((r₁ = false ∧ r = .bool false) ∨ (r₁ = true ∧ ∃ z r₂, ev C.K c false σ = some z ∧ cmpV o2 y z = some r₂ ∧ r = .bool r₂)) := by
    intro r hr
    obtain ⟨x, hx, hr⟩ := Option.bind_eq_some_iff.mp hr
    obtain ⟨y, hy, hr⟩ := Option.bind_eq_some_iff.mp hr
    obtain ⟨r₁, h1, hr⟩ := Option.bind_eq_some_iff.mp hr
    refine ⟨x, y, r₁, hx, hy, h1, ?_⟩
    cases r₁ with
    | false => cases hr; exact Or.inl ⟨rfl, rfl⟩
    | true =>
      simp only [if_true] at hr
      obtain ⟨z, hz, hr⟩ := Option.bind_eq_some_iff.mp hr
      obtain ⟨r₂, h2, rfl⟩ := Option.map_eq_some_iff.mp hr
      exact Or.inr ⟨rfl, z, r₂, hz, h2, rfl⟩
  refine ⟨fun v hv => ?_, fun r hr => ?_⟩
  · obtain ⟨x, y, r₁, hx, hy, h1, h2⟩ := split v hv
    intro Q E h
    refine Compare_chain ((ha nm sn n M Ch env σ s wa f).1 x hx _ _ fun xv s₁ M₁ g₁ t₁ a₁ rx => chain_link ((hb nm sn n M₁ Ch env σ s₁ wb (f.adv g₁ t₁ a₁)).1 y hy _ _ fun yv s₂ M₂ g₂ t₂ a₂ ry => ?_)) hm
    refine cmpV_ok hu h1 ((rx.keep a₂.st).up g₂) ry _ _ (wpAny_truthy_bool ?_)
    rcases h2 with ⟨rfl, rfl⟩ | ⟨rfl, z, r₂, hz, h2, rfl⟩
    · exact h _ _ M₂ (g₁.trans g₂) t₂ (a₁.trans a₂) rfl
    · simp only [if_true]
      refine chain_last ((hc nm sn n M₂ Ch env σ s₂ wc ((f.adv g₁ t₁ a₁).adv g₂ t₂ a₂)).1 z hz _ _ fun zv s₃ M₃ g₃ t₃ a₃ rz => cmpV_ok hu h2 ((ry.keep a₃.st).up g₃) rz _ _ ?_)
      exact h _ _ M₃ ((g₁.trans g₂).trans g₃) t₃ ((a₁.trans a₂).trans a₃) rfl
  · obtain ⟨x, y, r₁, hx, hy, h1, h2⟩ := split r hr
    have tl : ∀ (Q : Bool → Shared → Prop) (E : Value → Shared → Prop) (b' : Bool), r = .bool b' → (∀ s' M', M.le M' → Tb M' s'.toks → AdvE s s' → Q b' s') →
        wpAny (model prog w) A (isTrue (deX nm (.chain p o1 o2 a b c)) env (eval (deX nm (.chain p o1 o2 a b c)) env)) Q E s := by
      intro Q E b' hb' h
      refine isTrue_chain ((ha nm sn n M Ch env σ s wa f).1 x hx _ _ fun xv s₁ M₁ g₁ t₁ a₁ rx => test_link ((hb nm sn n M₁ Ch env σ s₁ wb (f.adv g₁ t₁ a₁)).1 y hy _ _ fun yv s₂ M₂ g₂ t₂ a₂ ry => ?_)) hm
      refine cmpV_ok hu h1 ((rx.keep a₂.st).up g₂) ry _ _ (wpAny_truthy_bool ?_)
      rcases h2 with ⟨rfl, rfl⟩ | ⟨rfl, z, r₂, hz, h2, rfl⟩
      · cases hb'; exact h _ M₂ (g₁.trans g₂) t₂ (a₁.trans a₂)
      · cases hb'
        refine test_last ((hc nm sn n M₂ Ch env σ s₂ wc ((f.adv g₁ t₁ a₁).adv g₂ t₂ a₂)).1 z hz _ _ fun zv s₃ M₃ g₃ t₃ a₃ rz => cmpV_ok hu h2 ((ry.keep a₃.st).up g₃) rz _ _ (wpAny_truthy_bool ?_))
        exact h _ M₃ ((g₁.trans g₂).trans g₃) t₃ ((a₁.trans a₂).trans a₃)
    obtain ⟨b', hb'⟩ : ∃ b', r = .bool b' := by
      rcases h2 with ⟨_, h⟩ | ⟨_, z, r₂, _, _, h⟩
      · exact ⟨_, h⟩
      · exact ⟨_, h⟩
    exact ⟨b', hb', fun Q E h => tl Q E b' hb' h⟩

theorem unB_some {o : Option V} {b : Bool} (h : unB o = some b) : o = some (.bool b) := by
  unfold unB at h
  split at h
  · cases h; rfl
  · cases h

theorem px_boo (p : Nat) (op : BoolOp) {a b : X} (ha : PX C A a) (hb : PX C A b) : PX C A (.boo p op a b) := by
  intro nm sn n M Ch env σ s hw f
  replace hw : (_ && _) = true := hw
  simp only [Bool.and_eq_true] at hw
  obtain ⟨wa, wb⟩ := hw
  have one : ∀ (Q : Bool → Shared → Prop) (E : Value → Shared → Prop) (s₁ : Shared) (M₁ : Gh), FS C M₁ Ch nm sn n env σ s₁ → ∀ c, ev C.K b true σ = some (.bool c) → (∀ s' M', M₁.le M' → Tb M' s'.toks → AdvE s₁ s' → Q c s') →
      wpAny (model prog w) A (isTrue (deX nm b) env (eval (deX nm b) env)) Q E s₁ := fun Q E s₁ M₁ f₁ c hc h => by
    obtain ⟨c', e, k⟩ := (hb nm sn n M₁ Ch env σ s₁ wb f₁).2 _ hc
    cases e
    exact k Q E h
  refine ⟨fun v hv => ?_, fun r hr => ?_⟩
  · rw [evE_boo] at hv
    obtain ⟨r₁, h1, hv⟩ := Option.bind_eq_some_iff.mp hv
    have h1 := unB_some h1
    intro Q E h
    cases op with
    | And =>
      refine BoolOp_and ((ha nm sn n M Ch env σ s wa f).1 _ h1 _ _ fun xv s₁ M₁ g₁ t₁ a₁ rx => ?_)
      rw [show xv = .bool r₁ from rx]
      refine wpAny_truthy_bool ?_
      cases r₁ with
      | false => cases hv; exact h _ _ M₁ g₁ t₁ a₁ rfl
      | true =>
        obtain ⟨c, hc, rfl⟩ := Option.map_eq_some_iff.mp hv
        refine BoolOp_one ((hb nm sn n M₁ Ch env σ s₁ wb (f.adv g₁ t₁ a₁)).1 _ (unB_some hc) _ _ fun yv s₂ M₂ g₂ t₂ a₂ ry => h _ _ M₂ (g₁.trans g₂) t₂ (a₁.trans a₂) ry)
    | Or =>
      refine BoolOp_or ((ha nm sn n M Ch env σ s wa f).1 _ h1 _ _ fun xv s₁ M₁ g₁ t₁ a₁ rx => ?_)
      rw [show xv = .bool r₁ from rx]
      refine wpAny_truthy_bool ?_
      cases r₁ with
      | true => cases hv; exact h _ _ M₁ g₁ t₁ a₁ rfl
      | false =>
        obtain ⟨c, hc, rfl⟩ := Option.map_eq_some_iff.mp hv
        refine BoolOp_one ((hb nm sn n M₁ Ch env σ s₁ wb (f.adv g₁ t₁ a₁)).1 _ (unB_some hc) _ _ fun yv s₂ M₂ g₂ t₂ a₂ ry => h _ _ M₂ (g₁.trans g₂) t₂ (a₁.trans a₂) ry)
  · rw [evE_boo] at hr
    obtain ⟨r₁, h1, hr⟩ := Option.bind_eq_some_iff.mp hr
    have h1 := unB_some h1
    obtain ⟨c₁, e, k⟩ := (ha nm sn n M Ch env σ s wa f).2 _ h1
    cases e
    cases op with
    | And =>
      cases r₁ with
      | false =>
        cases hr
        exact ⟨false, rfl, fun Q E h => isTrue_and (k _ _ fun s₁ M₁ g₁ t₁ a₁ => by exact h _ M₁ g₁ t₁ a₁)⟩
      | true =>
        obtain ⟨c, hc, rfl⟩ := Option.map_eq_some_iff.mp hr
        refine ⟨c, rfl, fun Q E h => isTrue_and (k _ _ fun s₁ M₁ g₁ t₁ a₁ => ?_)⟩
        refine isTrue_and (one _ _ s₁ M₁ (f.adv g₁ t₁ a₁) c (unB_some hc) fun s₂ M₂ g₂ t₂ a₂ => ?_)
        cases c with
        | false => exact h _ M₂ (g₁.trans g₂) t₂ (a₁.trans a₂)
        | true => exact isTrue_and_nil (h _ M₂ (g₁.trans g₂) t₂ (a₁.trans a₂))
    | Or =>
      cases r₁ with
      | true =>
        cases hr
        exact ⟨true, rfl, fun Q E h => isTrue_or (k _ _ fun s₁ M₁ g₁ t₁ a₁ => by exact h _ M₁ g₁ t₁ a₁)⟩
      | false =>
        obtain ⟨c, hc, rfl⟩ := Option.map_eq_some_iff.mp hr
        refine ⟨c, rfl, fun Q E h => isTrue_or (k _ _ fun s₁ M₁ g₁ t₁ a₁ => ?_)⟩
        refine isTrue_or (one _ _ s₁ M₁ (f.adv g₁ t₁ a₁) c (unB_some hc) fun s₂ M₂ g₂ t₂ a₂ => ?_)
        cases c with
        | true => exact h _ M₂ (g₁.trans g₂) t₂ (a₁.trans a₂)
        | false => exact isTrue_or_nil (h _ M₂ (g₁.trans g₂) t₂ (a₁.trans a₂))

theorem px_not (p : Nat) {a : X} (ha : PX C A a) : PX C A (.not_ p a) := by
  intro nm sn n M Ch env σ s hw f
  have wa : wfX nm sn a = true := hw
  refine ⟨fun v hv => ?_, fun r hr => ?_⟩
  · replace hv : Option.map (fun b => V.bool (!b)) ((ev C.K a false σ).bind truthV) = some v := hv
    obtain ⟨b, hb, rfl⟩ := Option.map_eq_some_iff.mp hv
    obtain ⟨x, hx, hb⟩ := Option.bind_eq_some_iff.mp hb
    exact fun Q E h => UnaryOp_ ((ha nm sn n M Ch env σ s wa f).1 x hx _ _ fun xv s₁ M₁ g₁ t₁ a₁ rx => not_of (truthV_ok hb rx _ _ fun s₂ a₂ => h _ _ M₁ g₁ (t₁.mono a₂.toks) (a₁.trans a₂) rfl))
  · rw [evE_not_] at hr
    obtain ⟨b, hb, rfl⟩ := Option.map_eq_some_iff.mp hr
    obtain ⟨c, e, k⟩ := (ha nm sn n M Ch env σ s wa f).2 _ (unB_some hb)
    cases e
    exact ⟨_, rfl, fun Q E h => isTrue_not (k _ _ fun s₁ M₁ g₁ t₁ a₁ => h _ M₁ g₁ t₁ a₁)⟩

theorem px_ite (p : Nat) {c a b : X} (hc : PX C A c) (ha : PX C A a) (hb : PX C A b) : PX C A (.ite p c a b) := by
  intro nm sn n M Ch env σ s hw f
  replace hw : (_ && _) = true := hw
  simp only [Bool.and_eq_true] at hw
  obtain ⟨⟨wc, wa⟩, wb⟩ := hw
  have key : ∀ v, ((unB (ev C.K c true σ)).bind fun r => if r then ev C.K a false σ else ev C.K b false σ) = some v → EvAt prog w A M (eval (deX nm (.ite p c a b)) env) v s := by
    intro v hv Q E h
    obtain ⟨r, hr, hv⟩ := Option.bind_eq_some_iff.mp hv
    obtain ⟨r', e, k⟩ := (hc nm sn n M Ch env σ s wc f).2 _ (unB_some hr)
    cases e
    refine IfExp_ (k _ _ fun s₁ M₁ g₁ t₁ a₁ => ?_)
    cases r with
    | true =>
      simp only [if_true] at hv ⊢
      exact (ha nm sn n M₁ Ch env σ s₁ wa (f.adv g₁ t₁ a₁)).1 v hv _ _ fun x s₂ M₂ g₂ t₂ a₂ rx => h x s₂ M₂ (g₁.trans g₂) t₂ (a₁.trans a₂) rx
    | false =>
      simp only [Bool.false_eq_true, if_false] at hv ⊢
      exact (hb nm sn n M₁ Ch env σ s₁ wb (f.adv g₁ t₁ a₁)).1 v hv _ _ fun x s₂ M₂ g₂ t₂ a₂ rx => h x s₂ M₂ (g₁.trans g₂) t₂ (a₁.trans a₂) rx
  refine ⟨fun v hv => key v hv, fun r hr => ?_⟩
  cases (show (none : Option V) = some r from hr)

theorem px_iseq (p p1 p2 p3 p4 p5 p6 i j : Nat) : PX C A (.iseq p p1 p2 p3 p4 p5 p6 i j) := by
  intro nm sn n M Ch env σ s hw f
  replace hw : (_ && _) = true := hw
  simp only [Bool.and_eq_true] at hw
  obtain ⟨wi, wj⟩ := hw
  have wi := nameOk_ok wi
  have wj := nameOk_ok wj
  refine ⟨fun v hv => ?_, fun r hr => ?_⟩
  · cases (show (none : Option V) = some v from hv)
  · replace hr : (match σ.at i, σ.at j with | some (.str true x), some (.str true y) => some (V.bool (x == y)) | _, _ => none) = some r := hr
    split at hr
    · rename_i x y hx hy
      cases hr
      refine ⟨_, rfl, fun Q E h => ?_⟩
      refine isTrue_or (wpAny_isTrue_Compare1 (f.var hx wi.1 wi.2 _ _ fun xv s₁ a₁ rx => (f.adv .refl (f.tb.mono a₁.toks) a₁).var hy wj.1 wj.2 _ _ fun yv s₂ a₂ ry => ?_) rfl)
      have a₁₂ := a₁.trans a₂
      have f₂ := f.adv .refl (f.tb.mono a₁₂.toks) a₁₂
      obtain ⟨t, rfl, ht⟩ := rx
      obtain ⟨u, rfl, hu⟩ := ry
      refine is_str (M := M) (C.share _ f₂.g) (ht rfl) (hu rfl) _ _ fun b hb => wpAny_truthy_bool ?_
      cases b with
      | true =>
        have e := hb rfl
        subst e
        have := h s₂ M .refl f₂.tb a₁₂
        rwa [beq_self_eq_true] at this
      | false =>
        refine isTrue_or (wpAny_isTrue_Compare1 (f₂.var hx wi.1 wi.2 _ _ fun xv s₃ a₃ rx => (f₂.adv .refl (f₂.tb.mono a₃.toks) a₃).var hy wj.1 wj.2 _ _ fun yv s₄ a₄ ry => ?_) rfl)
        obtain ⟨t', rfl, _⟩ := rx
        obtain ⟨u', rfl, _⟩ := ry
        have a := (a₁₂.trans a₃).trans a₄
        refine PyProof.Rows.eq_str (wpAny_truthy_bool ?_)
        have hq := h s₄ M .refl (f.tb.mono a.toks) a
        cases hxy : (x == y) with
        | true => rw [hxy] at hq; exact hq
        | false => rw [hxy] at hq; exact isTrue_or_nil hq
    · cases hr

/-! lists of arguments -/
theorem pl_nil : PL C A .nil := by
  intro nm sn n M Ch env σ s hw f vs hv Q E h
  cases hv
  exact spliced_nil (h [] s M .refl f.tb Adv.refl rfl)
theorem pl_cons {x : X} {xs : XL} (hx : PX C A x) (hxs : PL C A xs) : PL C A (.cons x xs) := by
  intro nm sn n M Ch env σ s hw f vs hv Q E h
  replace hw : (_ && _) = true := hw
  simp only [Bool.and_eq_true] at hw
  rw [evL_cons] at hv
  obtain ⟨v, hv1, hv⟩ := Option.bind_eq_some_iff.mp hv
  obtain ⟨us, hus, rfl⟩ := Option.map_eq_some_iff.mp hv
  refine spliced_cons ((hx nm sn n M Ch env σ s hw.1 f).1 v hv1 _ _ fun y s₁ M₁ g₁ t₁ a₁ r₁ => hxs nm sn n M₁ Ch env σ s₁ hw.2 (f.adv g₁ t₁ a₁) us hus _ _ fun ys s₂ M₂ g₂ t₂ a₂ r₂ => ?_)
  exact h (y :: ys) s₂ M₂ (g₁.trans g₂) t₂ (a₁.trans a₂) ⟨y, ys, rfl, (r₁.keep a₂.st).up g₂, r₂⟩

theorem VRs.noown {M : Gh} {h : Heap} {k : Gh} : ∀ {vs : List V} {xs : List Value}, argsFine vs = true → k.m = noC → (∀ t u, M.τ t = some u → k.τ t = some u) → VRs M h vs xs → VRs k h (vs.map freeze) xs
  | [], _, _, _, _, e => by rw [show _ = [] from e]; rfl
  | v :: vs, _, hf, hk, ht, ⟨y, ys, rfl, r, rs⟩ => by
    simp only [argsFine, Bool.and_eq_true] at hf
    refine ⟨y, _, rfl, ?_, VRs.noown hf.2 hk ht rs⟩
    have hm : ∀ b, k.m b → M.m b ∨ h.get? b = none := fun b hb => by rw [hk] at hb; exact hb.elim
    cases v <;> first | (exact VR.less hm ht hf.1 r) | skip
    rename_i us
    obtain ⟨a, it, rfl, hM, hl, rs'⟩ := r
    exact ⟨a, it, rfl, by rw [hk]; exact id, hl, VRs.less hm ht hf.1 rs'⟩
theorem fine_plain : ∀ {vs : List V}, argsFine vs = true → plains (vs.map freeze) = true
  | [], _ => rfl
  | v :: vs, h => by
    simp only [argsFine, Bool.and_eq_true] at h
    rw [List.map_cons, plains, fine_plain h.2, Bool.and_true]
    cases v <;> first | (exact h.1)
theorem freeze_plain {vs : List V} (h : anyOwn vs = false) : vs.map freeze = vs := by
  induction vs with
  | nil => rfl
  | cons v vs ih =>
    unfold anyOwn at h
    rw [List.any_cons, Bool.or_eq_false_iff] at h
    rw [List.map_cons, ih h.2]
    cases v <;> first | rfl | (simp at h)
theorem scal_any {M k : Gh} {h : Heap} {v : V} {x : Value} (hs : scal v = true) (ht : ∀ t u, k.τ t = some u → M.τ t = some u) (r : VR k h v x) : VR M h v x := by
  cases v <;> first | (exact r) | (simp [scal] at hs) | skip
  obtain ⟨t, e, q⟩ := r
  exact ⟨t, e, fun z => ⟨(q z).1, ht _ _ (q z).2⟩⟩

theorem callWith_xs {nm : List Str} {env : Env} {pos : Pos} {id : String} {first : List Value} {xs : XL} {s : Shared} {Q E : Value → Shared → Prop} (h0 : 0 < lenL xs)
    (h : wpAny (model prog w) A (spliced (trs nm env xs)) (fun vs s₁ => wpAny (model prog w) A (call (.builtin id) (first ++ vs)) Q E s₁) E s) : wpAny (model prog w) A (callWith pos (.builtin id) first (trs nm env xs) []) Q E s := by
  cases xs with
  | nil => cases h0
  | cons x xs => exact callWith_builtin (trs_plain _) (evalArgs_plain h)

theorem px_gcall (hr : RM A C.d) (p q : Nat) (id : Str) {args : XL} (ha : PL C A args) : PX C A (.gcall p q id args) :=
  px_leaf (fun σ => (evL C.K args σ).bind fun vs => if argsFine vs then (C.K.F id (vs.map freeze)).bind fun v => if v.plain && (!anyOwn vs || scal v) then some v else none else none) (fun _ _ => rfl) (fun _ _ => rfl) fun nm sn n M Ch env σ s hw f v hv => by
  replace hw : (_ && _) = true := hw
  simp only [Bool.and_eq_true, decide_eq_true_eq] at hw
  obtain ⟨⟨wg, wl⟩, w0⟩ := hw
  obtain ⟨wg1, wg2⟩ := glOk_ok wg
  obtain ⟨vs, hvs, hv⟩ := Option.bind_eq_some_iff.mp hv
  split at hv
  · rename_i hfine
    obtain ⟨u, hu, hv⟩ := Option.bind_eq_some_iff.mp hv
    split at hv
    · rename_i hc
      cases hv
      simp only [Bool.and_eq_true, Bool.or_eq_true, Bool.not_eq_true'] at hc
      obtain ⟨a, hfn, hload, hcall⟩ := C.fn id _ _ hu
      intro Q E h
      refine Call_Name (back_star _ _) (Name_function_global f.kind (f.gkind wg1) (hload A env s _ _ f.gl f.bl f.g ?_) wg2)
      cases args with
      | nil => cases w0
      | cons x xs =>
        obtain ⟨o, fd, ho, hd⟩ := hfn _ f.g
        refine callWith_function (o := o) (fd := fd) (evalArgs_plain (ha nm sn n M Ch env σ s wl f vs hvs _ _ fun ys s₁ M₁ g₁ t₁ a₁ r₁ => ⟨⟨a₁.st _ _ ho, hd⟩, ?_⟩))
        have f₁ := f.adv g₁ t₁ a₁
        have hpf := fine_plain hfine
        rcases hc.2 with hno | hsc
        · rw [freeze_plain hno] at hcall hpf
          exact hcall A s₁ M₁ ys hr hpf f₁.g f₁.t f₁.tb f₁.al r₁ _ _ fun x s₂ M₂ g₂ t₂ a₂ r₂ => h x s₂ M₂ (g₁.trans g₂) t₂ (a₁.trans a₂) r₂
        · refine hcall A s₁ ⟨noC, M₁.τ⟩ ys hr hpf f₁.g f₁.t f₁.tb Al.none (VRs.noown (M := M₁) hfine rfl (fun _ _ e => e) r₁) _ _ fun x s₂ M₂ g₂ t₂ a₂ r₂ => ?_
          exact h x s₂ ⟨M₁.m, M₂.τ⟩ (g₁.trans ⟨rfl, g₂.τ⟩) t₂ (a₁.trans a₂) (scal_any (k := M₂) hsc (fun _ _ e => e) r₂)
    · cases hv
  · cases hv

theorem px_bcall (hh : A.handled = none) (p q : Nat) (id : Str) {args : XL} (ha : PL C A args) : PX C A (.bcall p q id args) :=
  px_leaf (fun σ => (evL C.K args σ).bind fun vs => biV id vs) (fun _ _ => rfl) (fun _ _ => rfl) fun nm sn n M Ch env σ s hw f v hv => by
  replace hw : (_ && _) = true := hw
  simp only [Bool.and_eq_true, decide_eq_true_eq] at hw
  obtain ⟨⟨⟨wg, wl⟩, w0⟩, wb⟩ := hw
  obtain ⟨wg1, wg2⟩ := glOk_ok wg
  obtain ⟨vs, hvs, hv⟩ := Option.bind_eq_some_iff.mp hv
  intro Q E h
  refine Call_Name (back_star _ _) (Name_function_global f.kind (f.gkind wg1) (C.bi id (List.contains_iff_mem.mp wb) A env s _ _ f.gl f.bl f.g ?_) wg2)
  refine callWith_xs w0 (ha nm sn n M Ch env σ s wl f vs hvs _ _ fun ys s₁ M₁ g₁ t₁ a₁ r₁ => ?_)
  have f₁ := f.adv g₁ t₁ a₁
  exact (biV_ok hh f₁.al hv r₁).ev f₁.tb _ _ fun x s₂ M₂ g₂ t₂ a₂ r₂ => h x s₂ M₂ (g₁.trans g₂) t₂ (a₁.trans a₂) r₂

theorem px_meth (p q : Nat) (name : Str) {o : X} {args : XL} (ho : PX C A o) (ha : PL C A args) : PX C A (.meth p q o name args) :=
  px_leaf (fun σ => (ev C.K o false σ).bind fun x => (evL C.K args σ).bind fun vs => methV name x vs) (fun _ _ => rfl) (fun _ _ => rfl) fun nm sn n M Ch env σ s hw f v hv => by
  replace hw : (_ && _) = true := hw
  simp only [Bool.and_eq_true, decide_eq_true_eq] at hw
  obtain ⟨⟨⟨⟨⟨wo, wl⟩, w0⟩, w30⟩, wob⟩, wline⟩ := hw
  obtain ⟨x, hx, hv⟩ := Option.bind_eq_some_iff.mp hv
  obtain ⟨vs, hvs, hv⟩ := Option.bind_eq_some_iff.mp hv
  intro Q E h
  have hfew : ((backTo (ps p) (starEach (deL nm args) env)).all (fun x => !x.1) && (backToKw (ps p) (keywordEach [] env)).all (fun x => x.1.isSome)
      && decide ((deL nm args).length + ([] : List Keyword).length + (if ([] : List Keyword).isEmpty then 0 else 1) < 30)) = true := by
    rw [back_star, trs_all, lenL_eq]
    show (true && true && decide _) = true
    rw [decide_eq_true]; · rfl
    show _ + 0 + 0 < 30
    lia
  refine wpAny_Call_method_lateS (base_ok wob name) hfew wline ((ho nm sn n M Ch env σ s wo f).1 x hx _ _ fun ov s₁ M₁ g₁ t₁ a₁ r₁ => ?_)
  have f₁ := f.adv g₁ t₁ a₁
  rw [back_star]
  obtain ⟨T, bid, hpa, hslot, hty, htyped, hcall⟩ := methV_ok (prog := prog) (w := w) (A := A) hv
  obtain ⟨h1, h2⟩ := htyped M₁ s₁ ov r₁
  refine ⟨T, bid, hpa, hslot, hty, h1, h2, callWith_xs w0 (ha nm sn n M₁ Ch env σ s₁ wl f₁ vs hvs _ _ fun ys s₂ M₂ g₂ t₂ a₂ r₂ => ?_)⟩
  have f₂ := f₁.adv g₂ t₂ a₂
  exact (hcall M₂ s₂ ov ys f₂.al ((r₁.keep a₂.st).up g₂) r₂).ev f₂.tb _ _ fun x s₃ M₃ g₃ t₃ a₃ r₃ => h x s₃ M₃ ((g₁.trans g₂).trans g₃) t₃ ((a₁.trans a₂).trans a₃) r₃

theorem px_repl (p q p1 p2 : Nat) (y z : Str) {o : X} (ho : PX C A o) : PX C A (.repl p q o p1 y p2 z) :=
  px_leaf (fun σ => (ev C.K o false σ).bind fun x => match x with
    | .str n x => if !(y == z) && !(y.length == 0) && decide (z.length ≤ 1000) && decide (x.length ≤ 1000) then some (.str (n || !(Builtin.Str.occurrences x y 0 x.length (x.length + 1)).isEmpty) (replS x y z)) else none
    | _ => none) (fun _ _ => rfl) (fun _ _ => rfl) fun nm sn n M Ch env σ s hw f v hv => by
  replace hw : (_ && _) = true := hw
  simp only [Bool.and_eq_true] at hw
  obtain ⟨⟨wo, wob⟩, wline⟩ := hw
  obtain ⟨x, hx, hv⟩ := Option.bind_eq_some_iff.mp hv
  split at hv
  · rename_i nn xx
    split at hv
    · rename_i hc
      cases hv
      simp only [Bool.and_eq_true, Bool.not_eq_true', decide_eq_true_eq] at hc
      obtain ⟨⟨⟨hyz, hy⟩, hz⟩, hxl⟩ := hc
      intro Q E h
      refine wpAny_Call_method_lateS (base_ok wob _) rfl wline ((ho nm sn n M Ch env σ s wo f).1 _ hx _ _ fun ov s₁ M₁ g₁ t₁ a₁ r₁ => ?_)
      have f₁ := f.adv g₁ t₁ a₁
      obtain ⟨t, rfl, ht⟩ := r₁
      refine ⟨"str", _, F.plainAttrs_str, F.slot_str_replace, F.type_str_replace, typeIs_str _ _ _, (fun _ e => nomatch e), ?_⟩
      have e : backTo (ps p) (starEach [Expr.Constant (.str y) 0 (ps p1), Expr.Constant (.str z) 0 (ps p2)] env) = [(false, eval (Expr.Constant (.str y) 0 (ps p1)) env), (false, eval (Expr.Constant (.str z) 0 (ps p2)) env)] :=
        back_star (nm := nm) (ps p) (.cons (.cstr p1 y) (.cons (.cstr p2 z) .nil))
      rw [e]
      refine callWith_builtin rfl (evalArgs_plain (spliced_cons (Constant_str (k := 0) (pos := ps p1) (spliced_cons (Constant_str (k := 0) (pos := ps p2) (spliced_nil ?_))))))
      have a₂ : AdvE s₁ { s₁ with toks := s₁.toks + 1 + 1 } := AdvE.tok (Nat.le_add_right _ 2)
      have f₂ := f₁.adv .refl (f₁.tb.mono a₂.toks) a₂
      have ht1 := f₁.t
      exact repl_ev hxl hz hyz hy (Nat.ne_of_gt ht1) (Nat.succ_ne_zero _) (Nat.ne_of_lt (Nat.lt_succ_self _)) f₂.t f₂.tb ht _ _ fun x s₃ M₃ g₃ t₃ a₃ r₃ => h x s₃ M₃ (g₁.trans g₃) t₃ ((a₁.trans a₂).trans a₃) r₃
    · cases hv
  · cases hv

theorem subK_ok {C : Cx prog w} {A : Around} {M : Gh} {s : Shared} {x y r : V} {xv yv : Value} {value slice : Expr} (g : C.G s.heap) (hv : subK C.K x y = some r) (r₁ : VR M s.heap x xv) (r₂ : VR M s.heap y yv) :
    EvAt0 prog w A M (PyProof.Rows.subscriptTail value slice xv yv) r s := by
  unfold subK at hv
  split at hv
  · rename_i a n k
    obtain ⟨z, hz, rfl⟩ := Option.map_eq_some_iff.mp hv
    obtain ⟨xs, hd, hx⟩ := C.dic a k z hz _ g
    obtain ⟨t, hx⟩ := hx
    obtain ⟨t', rfl, _⟩ := r₂
    cases r₁
    refine sub_tail hd.typeIs slot_dict_getitem.lookup fun Q E h => ?_
    exact wpAny_getItem_of (strKind_is prog w k t') hd.mapOf hx (h _ _ (AdvE.tok (Nat.le_succ _)) ⟨t, rfl, fun z => nomatch z⟩)
  · exact subV_ok hv r₁ r₂

theorem px_idx (p : Nat) {a i : X} (ha : PX C A a) (hi : PX C A i) : PX C A (.idx p a i) :=
  px_leaf (fun σ => (ev C.K a false σ).bind fun x => (ev C.K i false σ).bind fun y => subK C.K x y) (fun _ _ => rfl) (fun _ _ => rfl) fun nm sn n M Ch env σ s hw f v hv => by
  replace hw : (_ && _) = true := hw
  simp only [Bool.and_eq_true] at hw
  obtain ⟨x, hx, hv⟩ := Option.bind_eq_some_iff.mp hv
  obtain ⟨y, hy, hv⟩ := Option.bind_eq_some_iff.mp hv
  exact fun Q E h => Subscript_ (ev2 f hw.1 hw.2 ha hi hx hy _ _ fun xv yv s' M' g f' a r₁ r₂ => (subK_ok f'.g hv r₁ r₂).ev f'.tb _ _ fun z s₃ M₃ g₃ t₃ a₃ r₃ => h z s₃ M₃ (g.trans g₃) t₃ (a.trans a₃) r₃)

theorem px_slc (p q : Nat) {a l u : X} (ha : PX C A a) (hl : PX C A l) (hu : PX C A u) : PX C A (.slc p q a l u) :=
  px_leaf (fun σ => (ev C.K a false σ).bind fun x => (ev C.K l false σ).bind fun l => (ev C.K u false σ).bind fun h => match l, h with
    | .int l, .int h => sliceV x (some l) (some h)
    | _, _ => none) (fun _ _ => rfl) (fun _ _ => rfl) fun nm sn n M Ch env σ s hw f v hv => by
  replace hw : (_ && _) = true := hw
  simp only [Bool.and_eq_true] at hw
  obtain ⟨⟨wa, wl⟩, wu⟩ := hw
  obtain ⟨x, hx, hv⟩ := Option.bind_eq_some_iff.mp hv
  obtain ⟨y, hy, hv⟩ := Option.bind_eq_some_iff.mp hv
  obtain ⟨z, hz, hv⟩ := Option.bind_eq_some_iff.mp hv
  split at hv
  · intro Q E h
    refine Subscript_ ((ha nm sn n M Ch env σ s wa f).1 x hx _ _ fun xv s₁ M₁ g₁ t₁ a₁ r₁ => wpAny_Slice ?_)
    have f₁ := f.adv g₁ t₁ a₁
    rw [evalPart_some]
    refine (hl nm sn n M₁ Ch env σ s₁ wl f₁).1 _ hy _ _ fun yv s₂ M₂ g₂ t₂ a₂ r₂ => ?_
    have f₂ := f₁.adv g₂ t₂ a₂
    rw [evalPart_some]
    refine (hu nm sn n M₂ Ch env σ s₂ wu f₂).1 _ hz _ _ fun zv s₃ M₃ g₃ t₃ a₃ r₃ => ?_
    have f₃ := f₂.adv g₃ t₃ a₃
    rw [evalPart_none]
    obtain ⟨t, rfl⟩ := r₂
    obtain ⟨t', rfl⟩ := r₃
    refine wpAny_pure (sliceV_ok hv f₃.al ((((r₁.keep a₂.st).up g₂).keep a₃.st).up g₃) (.int _ _) (.int _ _) _ _ fun x s₄ a₄ r₄ => ?_)
    exact h x s₄ M₃ ((g₁.trans g₂).trans g₃) (t₃.mono a₄.toks) (((a₁.trans a₂).trans a₃).trans a₄) r₄
  · cases hv

theorem px_slf (p q : Nat) {a l : X} (ha : PX C A a) (hl : PX C A l) : PX C A (.slf p q a l) :=
  px_leaf (fun σ => (ev C.K a false σ).bind fun x => (ev C.K l false σ).bind fun l => match l with
    | .int l => sliceV x (some l) none
    | _ => none) (fun _ _ => rfl) (fun _ _ => rfl) fun nm sn n M Ch env σ s hw f v hv => by
  replace hw : (_ && _) = true := hw
  simp only [Bool.and_eq_true] at hw
  obtain ⟨wa, wl⟩ := hw
  obtain ⟨x, hx, hv⟩ := Option.bind_eq_some_iff.mp hv
  obtain ⟨y, hy, hv⟩ := Option.bind_eq_some_iff.mp hv
  split at hv
  · intro Q E h
    refine Subscript_ ((ha nm sn n M Ch env σ s wa f).1 x hx _ _ fun xv s₁ M₁ g₁ t₁ a₁ r₁ => wpAny_Slice ?_)
    have f₁ := f.adv g₁ t₁ a₁
    rw [evalPart_some]
    refine (hl nm sn n M₁ Ch env σ s₁ wl f₁).1 _ hy _ _ fun yv s₂ M₂ g₂ t₂ a₂ r₂ => ?_
    have f₂ := f₁.adv g₂ t₂ a₂
    rw [evalPart_none]
    refine wpAny_pure ?_
    obtain ⟨t, rfl⟩ := r₂
    refine wpAny_pure (sliceV_ok hv f₂.al ((r₁.keep a₂.st).up g₂) (.int _ _) .none _ _ fun x s₄ a₄ r₄ => ?_)
    exact h x s₄ M₂ (g₁.trans g₂) (t₂.mono a₄.toks) ((a₁.trans a₂).trans a₄) r₄
  · cases hv

theorem px_tup (p : Nat) {args : XL} (ha : PL C A args) : PX C A (.tup p args) :=
  px_leaf (fun σ => (evL C.K args σ).bind fun vs => if plains vs && decide (vs.length ≤ lim) then some (.tup vs) else none) (fun _ _ => rfl) (fun _ _ => rfl) fun nm sn n M Ch env σ s hw f v hv => by
  obtain ⟨vs, hvs, hv⟩ := Option.bind_eq_some_iff.mp hv
  split at hv
  · rename_i hc
    cases hv
    simp only [Bool.and_eq_true, decide_eq_true_eq] at hc
    intro Q E h
    refine Tuple_ ?_
    rw [back_star]
    refine ha nm sn n M Ch env σ s hw f vs hvs _ _ fun ys s₁ M₁ g₁ t₁ a₁ r₁ => ?_
    have f₁ := f.adv g₁ t₁ a₁
    have hlim := lim_le
    exact wpAny_newTuple (h _ _ M₁ g₁ (t₁.mono (Nat.le_refl _)) (a₁.trans AdvE.push) (new_tup f₁.al (by simpa using r₁))) (by rw [VRs.length r₁]; lia)
  · cases hv
theorem px_lst (p : Nat) {args : XL} (ha : PL C A args) : PX C A (.lst p args) :=
  px_leaf (fun σ => (evL C.K args σ).bind fun vs => if plains vs && decide (vs.length ≤ lim) then some (.lst vs) else none) (fun _ _ => rfl) (fun _ _ => rfl) fun nm sn n M Ch env σ s hw f v hv => by
  obtain ⟨vs, hvs, hv⟩ := Option.bind_eq_some_iff.mp hv
  split at hv
  · rename_i hc
    cases hv
    simp only [Bool.and_eq_true, decide_eq_true_eq] at hc
    intro Q E h
    refine List_ ?_
    rw [back_star]
    refine ha nm sn n M Ch env σ s hw f vs hvs _ _ fun ys s₁ M₁ g₁ t₁ a₁ r₁ => ?_
    have f₁ := f.adv g₁ t₁ a₁
    have hlim := lim_le
    exact wpAny_newList (h _ _ M₁ g₁ (t₁.mono (Nat.le_refl _)) (a₁.trans AdvE.push) (new_list f₁.al (by simpa using r₁))) (by rw [VRs.length r₁]; lia)
  · cases hv

end Mine

namespace Mine
open PySem PySem.W PySem.Calls PyProof.Rows

variable {prog : Program} {w : World} {C : Cx prog w} {A : Around}

theorem pc_none : PC C A .none := by
  intro nm sn n M Ch env σ s hw f b hb Q E h
  cases hb
  exact wpAny_pure (h s M .refl f.tb Adv.refl)
theorem pc_some {x : X} (hx : PX C A x) : PC C A (.some x) := by
  intro nm sn n M Ch env σ s hw f b hb Q E h
  obtain ⟨b', e, k⟩ := (hx nm sn n M Ch env σ s hw f).2 _ (unB_some hb)
  cases e
  show wpAny _ _ (forIn [deX nm x] true _) _ _ _
  rw [List.forIn_cons]
  simp only [if_true]
  refine wpAny_bind (wpAny_bind (k _ _ fun s' M' g t a => wpAny_pure ?_))
  exact wpAny_pure (h s' M' g t a)

theorem pi_val (hh : A.handled = none) {x : X} (hx : PX C A x) : PI C A (.val x) := by
  intro nm sn n M Ch env σ s hw f vs hv Q E h
  obtain ⟨v, hv1, hv⟩ := Option.bind_eq_some_iff.mp (show (ev C.K x false σ).bind iterV = some vs from hv)
  exact (hx nm sn n M Ch env σ s hw f).1 v hv1 _ _ fun xv s₁ M₁ g₁ t₁ a₁ r₁ => iter_ev hh hv (f.adv g₁ t₁ a₁).al r₁ _ _ fun it W s₂ im => h s₁ it W s₂ M₁ g₁ t₁ a₁ im

theorem pi_own (p i : Nat) : PI C A (.own p i) := by
  intro nm sn n M Ch env σ s hw f vs hv
  cases (show (none : Option (List V)) = some vs from hv)

theorem one_arg {nm : List Str} {env : Env} (pos : Pos) (x : X) : backTo pos (starEach [deX nm x] env) = [(false, eval (deX nm x) env)] := back_star (nm := nm) pos (.cons x .nil)

theorem pi_rng (hh : A.handled = none) (p q : Nat) {x : X} (hx : PX C A x) : PI C A (.rng p q x) := by
  intro nm sn n M Ch env σ s hw f vs hv Q E h
  replace hw : (_ && _) = true := hw
  simp only [Bool.and_eq_true] at hw
  obtain ⟨wg1, wg2⟩ := glOk_ok hw.2
  obtain ⟨v, hv1, hv⟩ := Option.bind_eq_some_iff.mp (show (ev C.K x false σ).bind (fun v => match v with | .int n => if smallI n then some ((List.range n.toNat).map fun i : Nat => V.int i) else none | _ => none) = some vs from hv)
  split at hv
  · split at hv
    · rename_i k hk
      cases hv
      refine Call_Name (one_arg _ x) (Name_function_global f.kind (f.gkind wg1) (C.ty "range" (List.mem_cons_self ..) A env s _ _ f.gl f.bl f.g ?_) wg2)
      rw [if_pos (beq_self_eq_true _)]
      refine PySem.callWith_type rfl (evalArgs_plain (spliced_cons ((hx nm sn n M Ch env σ s hw.1 f).1 _ hv1 _ _ fun xv s₁ M₁ g₁ t₁ a₁ r₁ => spliced_nil ?_)))
      obtain ⟨t, rfl⟩ := r₁
      exact range_iter hh hk (f.adv g₁ t₁ a₁).al _ _ fun it W s₂ im => h s₁ it W s₂ M₁ g₁ t₁ a₁ im
    · cases hv
  · cases hv

theorem pi_enm (hh : A.handled = none) (p q : Nat) {x : X} (hx : PX C A x) : PI C A (.enm p q x) := by
  intro nm sn n M Ch env σ s hw f vs hv Q E h
  replace hw : (_ && _) = true := hw
  simp only [Bool.and_eq_true] at hw
  obtain ⟨wg1, wg2⟩ := glOk_ok hw.2
  obtain ⟨v, hv1, hv⟩ := Option.bind_eq_some_iff.mp (show (ev C.K x false σ).bind enumV = some vs from hv)
  refine Call_Name (one_arg _ x) (Name_function_global f.kind (f.gkind wg1) (C.ty "enumerate" (List.mem_cons_of_mem _ (List.mem_cons_self ..)) A env s _ _ f.gl f.bl f.g ?_) wg2)
  rw [if_neg (by decide)]
  refine PySem.callWith_type rfl (evalArgs_plain (spliced_cons ((hx nm sn n M Ch env σ s hw.1 f).1 _ hv1 _ _ fun xv s₁ M₁ g₁ t₁ a₁ r₁ => spliced_nil ?_)))
  exact enum_iter hv (f.adv g₁ t₁ a₁).al r₁ _ _ fun it W s₂ im => h s₁ it W s₂ M₁ g₁ t₁ a₁ (im A hh)

theorem pi_gen (p q : Nat) (id : Str) (x : X) : PI C A (.gen p q id x) := by
  intro nm sn n M Ch env σ s hw f vs hv
  cases (show (none : Option (List V)) = some vs from hv)

theorem tg_ok {nm : List Str} {two : Bool} {t : T} (h : (!two || isT2 t) = true) : TgOk two (deT nm t) := by
  cases t with
  | t1 p i =>
    cases two with
    | true => cases h
    | false => exact Or.inr ⟨rfl, _, _, rfl⟩
  | t2 p p1 i p2 j => exact Or.inl ⟨_, _, _, rfl⟩

/-- a comprehension, for any use of what it makes -/
theorem comp_any (hh : A.handled = none) (p : Nat) (sc : Scope) (nm' : List Str) (cap : List Nat) (t : T) {it : It} {cond : Cd} {elt : X} (hi : PI C A it) (hc : PC C A cond) (he : PX C A elt)
    {nm : List Str} {sn : Nms} {n : Nat} {M : Gh} {Ch : Pr} {env : Env} {σ : Sto} {s : Shared} (hw : wfX nm sn (.comp p sc nm' cap t it cond elt) = true) (f : FS C M Ch nm sn n env σ s) {v : V}
    (hv : ev C.K (.comp p sc nm' cap t it cond elt) false σ = some v) {use : Option (Value → Sem Unit)} (Q E : Value → Shared → Prop) :
    ∃ final, v = .lst final ∧ plains final = true ∧ ((∀ (acc L : Addr) s'' τ', (∀ t u, M.τ t = some u → τ' t = some u) → Tb ⟨M.m, τ'⟩ s''.toks → AdvE s s'' → s.heap.get? L = none → (∃ m, s''.heap.Ns L m) →
      VR ⟨fun b => M.m b ∨ b = L, τ'⟩ s''.heap (.lst final) (.ref acc) → compPost (model prog w) A E use Q (.ref acc) L (.ok .next) s'') →
    wpAny (model prog w) A (comprehension (.ListComp (deX nm' elt) [⟨deT nm' t, deI nm it, deC nm' cond, 0⟩] sc (ps p)) sc env (deI nm it).pos (newList []) false (eval (deI nm it) env) use) Q E s) := by
  replace hw : (_ && _) = true := hw
  simp only [Bool.and_eq_true] at hw
  obtain ⟨⟨⟨⟨wsc, wi⟩, wt⟩, wc⟩, we⟩ := hw
  rw [evE_comp] at hv
  obtain ⟨vs, hvs, hv⟩ := Option.bind_eq_some_iff.mp hv
  obtain ⟨cs, hcs, hv⟩ := Option.bind_eq_some_iff.mp hv
  split at hv
  · cases hv
  · rename_i hlen
    obtain ⟨final, hfinal, rfl⟩ := Option.map_eq_some_iff.mp hv
    refine ⟨final, rfl, compL_plain hfinal, fun hfin => ?_⟩
    refine comp_core f hh (okSc_ok wsc) hcs (tg_ok wt) (fun x => fold_ok it x) Q E (fun Q E h => hi nm sn n M Ch env σ s wi f vs hvs Q E h)
      (fun M' Ch' env' σ' s' b f' hb Q E h => hc nm' _ _ M' Ch' env' σ' s' wc f' b hb Q E fun s'' M'' g t a => h s'' M'' g t a)
      (fun M' Ch' env' σ' s' v f' hv => (he nm' _ _ M' Ch' env' σ' s' we f').1 v hv) hfinal (by lia) hfin

theorem px_comp (hh : A.handled = none) (p : Nat) (sc : Scope) (nm' : List Str) (cap : List Nat) (t : T) {it : It} {cond : Cd} {elt : X} (hi : PI C A it) (hc : PC C A cond) (he : PX C A elt) : PX C A (.comp p sc nm' cap t it cond elt) :=
  px_leaf (fun σ => ev C.K (.comp p sc nm' cap t it cond elt) false σ) (fun _ _ => rfl) (fun _ _ => rfl) fun nm sn n M Ch env σ s hw f v hv => by
  intro Q E h
  obtain ⟨final, rfl, hp, k⟩ := comp_any hh p sc nm' cap t hi hc he hw f hv (use := none) Q E
  show wpAny (model prog w) A (comprehension (.ListComp (deX nm' elt) [⟨deT nm' t, deI nm it, deC nm' cond, 0⟩] sc (ps p)) sc env (deI nm it).pos (newList []) false (eval (deI nm it) env) none) Q E s
  refine k fun acc L s'' τ' hτ htb a hL ⟨m, hn⟩ r => ⟨m, hn, fun h' hs' => ?_⟩
  have hs' : Heap.SameBut L s''.heap h' := hs'
  have hr : VR ⟨fun b => M.m b ∨ b = L, τ'⟩ h' (.lst final) (.ref acc) := VR.but (fun b o hb e => (hs'.2 b (fun z => hb (Or.inr z))).trans e) hp r
  refine h _ { s'' with heap := h' } ⟨M.m, τ'⟩ ⟨rfl, hτ⟩ htb ?_ (VR.less (M := ⟨fun b => M.m b ∨ b = L, τ'⟩) (M' := ⟨M.m, τ'⟩) (fun b hb => Or.inl (Or.inl hb)) (fun _ _ e => e) hp hr)
  exact a.transW (AdvW.ext (C := fun b => b = L) (n := s.gens.size) (a := L) (k := s''.toks) rfl hs'.extBut (Nat.le_refl _)) (Nat.le_refl _) fun x hx => by rw [hx]; exact hL

theorem px_dict (p : Nat) (ks : List (Nat × Str)) (args : XL) : PX C A (.dict p ks args) := by
  intro nm sn n M Ch env σ s hw f
  constructor
  · intro v hv; cases (show (none : Option V) = some v from hv)
  · intro v hv; cases (show (none : Option V) = some v from hv)

mutual
theorem ev_ok (hr : RM A C.d) : ∀ x : X, PX C A x
  | .var p i => px_var p i
  | .gname p id => px_gname p id
  | .cint p k => px_cint p k
  | .neg p q k => px_neg p q k
  | .cstr p x => px_cstr p x
  | .cbool p b => px_cbool p b
  | .cnone p => px_cnone p
  | .bin p op a b => px_bin p op (ev_ok hr a) (ev_ok hr b)
  | .cmp p op a b => px_cmp hr.u p op (ev_ok hr a) (ev_ok hr b)
  | .chain p o1 o2 a b c => px_chain hr.u p o1 o2 (ev_ok hr a) (ev_ok hr b) (ev_ok hr c)
  | .boo p op a b => px_boo p op (ev_ok hr a) (ev_ok hr b)
  | .iseq p p1 p2 p3 p4 p5 p6 i j => px_iseq p p1 p2 p3 p4 p5 p6 i j
  | .not_ p a => px_not p (ev_ok hr a)
  | .ite p c a b => px_ite p (ev_ok hr c) (ev_ok hr a) (ev_ok hr b)
  | .gcall p q id args => px_gcall hr p q id (evl_ok hr args)
  | .bcall p q id args => px_bcall hr.handled p q id (evl_ok hr args)
  | .meth p q o name args => px_meth p q name (ev_ok hr o) (evl_ok hr args)
  | .repl p q o p1 y p2 z => px_repl p q p1 p2 y z (ev_ok hr o)
  | .idx p a i => px_idx p (ev_ok hr a) (ev_ok hr i)
  | .slc p q a l u => px_slc p q (ev_ok hr a) (ev_ok hr l) (ev_ok hr u)
  | .slf p q a l => px_slf p q (ev_ok hr a) (ev_ok hr l)
  | .tup p args => px_tup p (evl_ok hr args)
  | .lst p args => px_lst p (evl_ok hr args)
  | .dict p ks args => px_dict p ks args
  | .comp p sc nm cap t it cond elt => px_comp hr.handled p sc nm cap t (evi_ok hr it) (evc_ok hr cond) (ev_ok hr elt)
theorem evl_ok (hr : RM A C.d) : ∀ xs : XL, PL C A xs
  | .nil => pl_nil
  | .cons x xs => pl_cons (ev_ok hr x) (evl_ok hr xs)
theorem evi_ok (hr : RM A C.d) : ∀ it : It, PI C A it
  | .val x => pi_val hr.handled (ev_ok hr x)
  | .own p i => pi_own p i
  | .rng p q x => pi_rng hr.handled p q (ev_ok hr x)
  | .enm p q x => pi_enm hr.handled p q (ev_ok hr x)
  | .gen p q id x => pi_gen p q id x
theorem evc_ok (hr : RM A C.d) : ∀ c : Cd, PC C A c
  | .none => pc_none
  | .some x => pc_some (ev_ok hr x)
end

end Mine

namespace Mine
open PySem PySem.W PySem.Calls PyProof.Rows

variable {prog : Program} {w : World} {C : Cx prog w} {M : Gh} {Ch : Pr} {nm : List Str} {sn : Nms} {n : Nat} {env : Env} {σ : Sto} {s s' : Shared} {A : Around}

theorem FS.old (f : FS C M Ch nm sn n env σ s) {b : Addr} (hb : s.heap.get? b = none) : ¬ C.Old b := fun ho => by
  obtain ⟨o, ho⟩ := C.live _ f.g b ho
  rw [hb] at ho; cases ho
theorem FS.mfresh (f : FS C M Ch nm sn n env σ s) {b : Addr} (hb : s.heap.get? b = none) : ¬ M.m b := fun z => by
  obtain ⟨o, ho⟩ := f.al b z
  rw [hb] at ho; cases ho

/-- more addresses to keep away from: W is new since s -/
theorem FS.grow (f : FS C M Ch nm sn n env σ s) (a : AdvE s s') {W : Pr} {τ : Tok → Option Str} (hW : ∀ b, W b → s.heap.get? b = none ∧ ∃ o, s'.heap.get? b = some o) (hτ : ∀ t u, M.τ t = some u → τ t = some u) (hb : Tb ⟨M.m, τ⟩ s'.toks) :
    FS C ⟨fun b => M.m b ∨ W b, τ⟩ Ch nm sn n env σ s' := by
  obtain ⟨m, hn, hv⟩ := f.vals
  refine ⟨f.kind, f.names, f.gl, f.bl, a.G f.g, Nat.le_trans f.t a.toks, hb, fun b hb => ?_, fun b hb => ⟨Or.inl (f.sub b hb).1, (f.sub b hb).2⟩, f.len, f.loc, ⟨m, hn.keeps a.st, fun i hi => ?_⟩, f.inj, f.wr, f.one, Or.inl f.ml, f.nd, f.wk, f.pl, fun i c hi hl hc => Or.inl (f.cm i c hi hl hc)⟩
  · rcases hb with hb | hb
    · exact f.al.adv a b hb
    · exact (hW b hb).2
  · obtain ⟨x, hl, hy⟩ := hv i hi
    refine ⟨x, ?_, fun v e => ?_⟩
    · rcases hl with hl | ⟨hk, c, hc, hx⟩
      · exact Or.inl hl
      · exact Or.inr ⟨hk, c, hc, hx.keeps a.st⟩
    · obtain ⟨y, rfl, r, o⟩ := hy v e
      refine ⟨y, rfl, VR.keep a.st ?_, o⟩
      have hm : ∀ b, (M.m b ∨ W b) → M.m b ∨ s.heap.get? b = none := fun b hb => hb.elim Or.inl fun z => Or.inr (hW b z).1
      rcases f.pl i v e with hp | ⟨us, rfl, hp⟩
      · exact VR.less (M' := ⟨fun b => M.m b ∨ W b, τ⟩) hm hτ hp r
      · obtain ⟨a', its, rfl, hM', hl', rs⟩ := r
        exact ⟨a', its, rfl, Or.inl hM', hl', VRs.less (M' := ⟨fun b => M.m b ∨ W b, τ⟩) hm hτ hp rs⟩

/-- and they may be left behind again -/
theorem FS.leave {M₂ : Gh} (f : FS C M₂ Ch nm sn n env σ s) {X : Pr} {k : Nat} (a : AdvW X k s s') (h1 : ∀ b, X b → M₂.m b) (h2 : ∀ b, X b → ¬ C.Old b) (h3 : ∀ b, Ch b → ¬ X b)
    (h4 : ∀ i c, i < nm.length → sn.lookup (nmAt nm i) ≠ some .local → env.cells.lookup (nmAt nm i) = some c → ¬ X c) {M' : Pr} (hm : ∀ b, M' b ↔ M₂.m b ∧ ¬ X b) : FS C ⟨M', M₂.τ⟩ Ch nm sn n env σ s' := by
  obtain ⟨m, hn, hv⟩ := f.vals
  have hkm : Kp M₂.m s.heap s'.heap := fun b o hb e => a.keep b o (fun z => hb (h1 b z)) e
  have hless : ∀ b, M' b → M₂.m b ∨ s'.heap.get? b = none := fun b hb => Or.inl ((hm b).mp hb).1
  refine ⟨f.kind, f.names, f.gl, f.bl, C.stay _ _ f.g fun b o hb e => a.keep b o (fun z => h2 b z hb) e, Nat.le_trans f.t a.toks, fun t ht => f.tb.mono a.toks t ht, fun b hb => ?_, fun b hb => ⟨(hm b).mpr ⟨(f.sub b hb).1, h3 b hb⟩, (f.sub b hb).2⟩, f.len, f.loc,
    ⟨m, hn.at fun o e => a.keep _ o (h3 _ f.loc) e, fun i hi => ?_⟩, f.inj, f.wr, f.one, (hm _).mpr ⟨f.ml, h3 _ f.loc⟩, f.nd, f.wk, f.pl, fun i c hi hl hc => (hm _).mpr ⟨f.cm i c hi hl hc, h4 i c hi hl hc⟩⟩
  · obtain ⟨h, hx⟩ := (hm b).mp hb
    obtain ⟨o, ho⟩ := f.al b h
    exact ⟨o, a.keep b o hx ho⟩
  · obtain ⟨x, hl, hy⟩ := hv i hi
    refine ⟨x, ?_, fun v e => ?_⟩
    · rcases hl with h | ⟨hk, c, hc, o, ho, hd⟩
      · exact Or.inl h
      · exact Or.inr ⟨hk, c, hc, o, a.keep c o (h4 i c hi (by rcases hk with e | e <;> rw [e] <;> decide) hc) ho, hd⟩
    · obtain ⟨y, rfl, r, hown⟩ := hy v e
      refine ⟨y, rfl, ?_, hown⟩
      rcases f.pl i v e with hp | ⟨us, rfl, hp⟩
      · exact VR.less (M' := ⟨M', M₂.τ⟩) hless (fun _ _ e => e) hp (VR.but hkm hp r)
      · obtain ⟨a', its, rfl, hM', hl', rs⟩ := r
        obtain ⟨b, hb, hcb⟩ := hown us rfl
        cases hb
        exact ⟨a', its, rfl, (hm _).mpr ⟨hM', h3 _ hcb⟩, hl'.at fun o e => a.keep _ o (h3 _ hcb) e, VRs.less (M' := ⟨M', M₂.τ⟩) hless (fun _ _ e => e) hp (VRs.but hkm hp rs)⟩

/-- where a name's value lies -/
noncomputable def LocV (env : Env) (sn : Nms) (h : Heap) (id : Str) (x : Value) : Prop := ∃ m, h.Ns env.locals m ∧ Loc env sn m h id (some x)
theorem LocV.keep {id : Str} {x : Value} (l : LocV env sn s.heap id x) (a : AdvE s s') : LocV env sn s'.heap id x := by
  obtain ⟨m, hn, hl⟩ := l
  refine ⟨m, hn.keeps a.st, ?_⟩
  rcases hl with h | ⟨hk, c, hc, hx⟩
  · exact Or.inl h
  · exact Or.inr ⟨hk, c, hc, hx.keeps a.st⟩
theorem LocV.unique {id : Str} {x y : Value} {h : Heap} (a : LocV env sn h id x) (b : LocV env sn h id y) : x = y := by
  obtain ⟨m, hn, hl⟩ := a
  obtain ⟨m', hn', hl'⟩ := b
  rcases hl with ⟨k1, k2⟩ | ⟨k1, c, k2, k3⟩
  · rcases hl' with ⟨_, k4⟩ | ⟨k4, _⟩
    · have := hn.agree hn' id
      rw [k2, k4] at this; cases this; rfl
    · rcases k4 with k4 | k4 <;> rw [k1] at k4 <;> cases k4
  · rcases hl' with ⟨k4, _⟩ | ⟨_, c', k5, k6⟩
    · rcases k1 with k1 | k1 <;> rw [k1] at k4 <;> cases k4
    · rw [k2] at k5; cases k5
      obtain ⟨o, ho, hd⟩ := k3
      obtain ⟨o', ho', hd'⟩ := k6
      rw [ho] at ho'; cases ho'
      rw [hd] at hd'; cases hd'; rfl
theorem LocV.eval (f : FS C M Ch nm sn n env σ s) {i p : Nat} {x : Value} (l : LocV env sn s.heap (nmAt nm i) x) (hd : (nmAt nm i == ("__debug__" : Str)) = false) (hc : (nmAt nm i == ("__classdict__" : Str)) = false) (Q E : Value → Shared → Prop) (h : Q x s) :
    wpAny (model prog w) A (eval (.Name (nmAt nm i) (ps p)) env) Q E s := by
  obtain ⟨m, hn, hl⟩ := l
  refine wpAny_Name ?_ hd
  rcases hl with ⟨hk, hm⟩ | ⟨hk, c, hcl, hx⟩
  · exact wpAny_loadName_local f.kind (by unfold Env.kindOf; rw [f.names]; exact hk) hn hm h
  · rcases hk with hk | hk
    · exact wpAny_loadName_cell f.kind (by unfold Env.kindOf; rw [f.names]; exact hk) hcl hx h
    · exact wpAny_loadName_free f.kind (by unfold Env.kindOf; rw [f.names]; exact hk) hcl hx h hc
theorem FS.locV (f : FS C M Ch nm sn n env σ s) {i : Nat} {v : V} (e : σ.at i = some v) : ∃ x, LocV env sn s.heap (nmAt nm i) x ∧ VR M s.heap v x ∧ ∀ vs, v = .olst vs → ∃ a, x = .ref a ∧ Ch a := by
  obtain ⟨m, hn, hs⟩ := f.vals
  obtain ⟨x, hl, hv⟩ := hs i (by rw [← f.len]; exact at_lt e)
  obtain ⟨y, rfl, r, o⟩ := hv v e
  exact ⟨y, ⟨m, hn, hl⟩, r, o⟩

/-- the owned list, and what becomes of the frame when it changes -/
theorem FS.owned (f : FS C M Ch nm sn n env σ s) {i : Nat} {vs : List V} (e : σ.at i = some (.olst vs)) {D : Addr} (hD : LocV env sn s.heap (nmAt nm i) (.ref D)) :
    ∃ items, Ch D ∧ s.heap.PlainList D items ∧ VRs M s.heap vs items.toList ∧ plains vs = true ∧
      (∀ h' items' vs' k, h'.PlainList D items' → Heap.SameBut D s.heap h' → VRs M h' vs' items'.toList → plains vs' = true → s.toks ≤ k → FS C M Ch nm sn n env (σ.set i (some (.olst vs'))) { s with heap := h', toks := k } ∧ Adv Ch s.gens.size s { s with heap := h', toks := k }) := by
  obtain ⟨x₀, hx₀, r, hown⟩ := f.locV e
  cases hx₀.unique hD
  obtain ⟨m, hn, hs⟩ := f.vals
  have hil : i < σ.length := at_lt e
  have hin : i < nm.length := by rw [← f.len]; exact hil
  obtain ⟨D₁, hy, hCh⟩ := hown vs rfl
  cases hy
  have hpv : plains vs = true := by
    rcases f.pl i _ e with hp | ⟨us, h1, hp⟩
    · cases hp
    · cases h1; exact hp
  obtain ⟨D', items, hD', hMD, hpl, rs⟩ := r
  cases hD'
  obtain ⟨oL, _, _, hoL, hdL, _⟩ := id hn
  refine ⟨items, hCh, hpl, rs, hpv, fun h' items' vs' k hpl' hsb rs' hp' hk => ?_⟩
  have hadv : Adv Ch s.gens.size s { s with heap := h', toks := k } := Adv.same hCh hsb (let ⟨k, ho⟩ := hpl'; ⟨_, ho⟩) hk
  have hkm : Kp M.m s.heap h' := fun b o hb e => hadv.keep b o (fun z => hb (f.sub b z).1) e
  obtain ⟨nD, hoD⟩ := hpl
  have hDL : env.locals ≠ D := fun z => by rw [z, hoD] at hoL; cases hoL; cases hdL
  refine ⟨⟨f.kind, f.names, f.gl, f.bl, ?_, Nat.le_trans f.t hk, f.tb.mono hk, f.al.adv hadv, f.sub, by rw [List.length_set]; exact f.len, f.loc, ⟨m, hn.sameBut hsb hDL, fun j hj => ?_⟩, f.inj, f.wr, fun p q us ws hp hq => ?_, f.ml, f.nd, f.wk, fun p u hp => ?_, f.cm⟩, hadv⟩
  · exact C.stay _ _ f.g fun b o hb e => hadv.keep b o (fun z => (f.sub b z).2 hb) e
  · obtain ⟨x', hl', hv'⟩ := hs j hj
    refine ⟨x', ?_, fun u hu => ?_⟩
    · rcases hl' with h1 | ⟨h1, c, hc, hx⟩
      · exact Or.inl h1
      · exact Or.inr ⟨h1, c, hc, hx.sameBut hsb fun z => by obtain ⟨o, ho, hd⟩ := hx; rw [z, hoD] at ho; cases ho; cases hd⟩
    · rw [set_at hil] at hu
      by_cases hji : j = i
      · subst hji
        rw [if_pos rfl] at hu
        cases hu
        obtain ⟨y, rfl, _, _⟩ := hv' _ e
        cases (LocV.unique ⟨m, hn, hl'⟩ hD)
        exact ⟨_, rfl, ⟨D, items', rfl, hMD, hpl', rs'⟩, fun ws _ => ⟨D, rfl, hCh⟩⟩
      · rw [if_neg hji] at hu
        obtain ⟨z, rfl, q, o⟩ := hv' u hu
        refine ⟨z, rfl, ?_, o⟩
        rcases f.pl j u hu with hp | ⟨us, rfl, hp⟩
        · exact VR.but hkm hp q
        · exact absurd (f.one j i us vs hu e) hji
  · rw [set_at hil] at hp hq
    by_cases h1 : p = i
    · by_cases h2 : q = i
      · rw [h1, h2]
      · rw [if_neg h2] at hq; exact absurd (f.one q i ws vs hq e) h2
    · rw [if_neg h1] at hp; exact absurd (f.one p i us vs hp e) h1
  · rw [set_at hil] at hp
    by_cases h1 : p = i
    · rw [if_pos h1] at hp; cases hp; exact Or.inr ⟨vs', rfl, hp'⟩
    · rw [if_neg h1] at hp; exact f.pl p u hp

theorem augV_ok {op : Operator} {a b v : V} {x y : Value} (e : augV op a b = some v) (hb : Tb M s.toks) (ht : 1 ≤ s.toks) (r : VR M s.heap a x) (q : VR M s.heap b y) : EvAt prog w A M (inplaceOp op x y) v s := by
  have hs := lim_le
  unfold augV at e
  split at e
  · cases e; obtain ⟨t, rfl⟩ := r; obtain ⟨u, rfl⟩ := q
    exact EvAt0.ev (fun Q E h => P.iadd_int (h _ _ (AdvE.tok (Nat.le_succ _)) ⟨_, rfl⟩)) hb
  · cases e; obtain ⟨t, rfl⟩ := r; obtain ⟨u, rfl⟩ := q
    exact EvAt0.ev (fun Q E h => P.isub_int (h _ _ (AdvE.tok (Nat.le_succ _)) ⟨_, rfl⟩)) hb
  · split at e
    · rename_i hl
      cases e; obtain ⟨t, rfl, hx⟩ := r; obtain ⟨u, rfl, hy⟩ := q
      intro Q E h
      refine P.iadd_str ?_
      split
      · rename_i e
        rw [str_len0 e, Str.empty_append] at h
        exact h _ s M .refl hb Adv.refl ⟨u, rfl, fun z => hy (by simp at z; exact z.2)⟩
      · split
        · rename_i e
          rw [str_len0 e, Str.append_empty] at h
          exact h _ s M .refl hb Adv.refl ⟨t, rfl, fun z => hx (by simp at z; exact z.1)⟩
        · exact ⟨by rw [str_app]; lia, h _ _ (M.put s.toks _) (Gh.put_le hb) (Gh.put_tb hb) (AdvE.tok (Nat.le_succ _)) ⟨s.toks, rfl, fun _ => ⟨Nat.ne_of_gt ht, Gh.put_at⟩⟩⟩
    · cases e
  · cases e

theorem not_starred (nm : List Str) (a : X) : ¬ ((match deX nm a with | .Starred .. => true | _ => false) = true) := by
  cases a <;> exact Bool.false_ne_true
theorem sw_both {n1 n2 : Str} {p1 p2 q q' : Pos} {a b : X} {nm : List Str} (hk : env.scope.kind = .function) (k1 : env.kindOf n1 = some .local) (k2 : env.kindOf n2 = some .local) (hp : p2.line = p1.line) (hne : n1 ≠ n2)
    (hf : ([deX nm a, deX nm b].all (foldedForSure 8)) = false) (hc : ([deX nm a, deX nm b].all (constantsAlone 8)) = false) :
    swappedStores [.Tuple [.Name n1 p1, .Name n2 p2] 0 q] (.Tuple [deX nm a, deX nm b] 0 q') env = pure (some [n1, n2]) := by
  have hb : env.blockKind = .function := by unfold Env.blockKind; rw [hk]; rfl
  have hpos : ((Expr.Name n1 p1).pos.line) = p1.line := rfl
  unfold swappedStores
  simp only [List.length_cons, List.length_nil, hb, bne_self_eq_false, Bool.or_false, hf, hc, List.head?_cons, Option.map_some, Option.getD_some, List.filterMap_cons, List.filterMap_nil, k1, k2, hpos, hp, beq_self_eq_true, Bool.and_self, if_true, Bool.false_eq_true, if_false]
  have he : [n1, n2].eraseDups.length = 2 := by
    simp [List.eraseDups_cons, Ne.symm hne]
  simp [he]
  intro h
  exfalso
  rcases h with h | h
  · exact not_starred nm a h
  · exact not_starred nm b h

theorem sw_not {n1 n2 : Str} {p1 p2 q q' : Pos} {a b : X} {nm : List Str} (hk : ¬ env.kindOf n1 = some .local) :
    swappedStores [.Tuple [.Name n1 p1, .Name n2 p2] 0 q] (.Tuple [deX nm a, deX nm b] 0 q') env = pure none := by
  unfold swappedStores
  have h1 : (env.kindOf n1 == some NameKind.local) = false := by simpa using hk
  simp only [List.filterMap_cons, List.filterMap_nil, h1, Bool.false_and, Bool.false_eq_true, if_false]
  split
  · rfl
  · split
    · rfl
    · rw [if_pos]
      split <;> simp

end Mine

namespace Mine
open PySem PySem.W PySem.Calls PyProof.Rows

variable {prog : Program} {w : World} {C : Cx prog w} {A : Around}

noncomputable def FlR (M : Gh) (h : Heap) : Fl → Flow → Prop
  | .next, f => f = .next
  | .brk, f => f = .brk
  | .cont, f => f = .cont
  | .ret v, f => ∃ x, f = .ret x ∧ VR M h v x ∧ v.plain = true

noncomputable def swB (nm : List Str) (sn : Nms) (q i : Nat) : X → Bool
  | .comp p sc _ _ _ _ _ _ => sn.lookup (nmAt nm i) == some .local && (ps q).line == (ps p).line && !(sc.names.any fun (n, k) => n == nmAt nm i && (k == .local || k == .cell))
  | _ => false
theorem swB_ok {nm : List Str} {sn : Nms} {env : Env} {q i line : Nat} (x : X) (hk : env.scope.kind = .function) (hn : env.scope.names = sn) :
    swapsWith (deX nm x) (some (.Name (nmAt nm i) (ps q))) line env = pure (swB nm sn q i x) := by
  have hb : (env.blockKind == .function) = true := by unfold Env.blockKind; rw [hk]; rfl
  cases x <;> first | rfl | skip
  rename_i p sc nm' cap t it cond elt
  show (pure _ : Sem Bool) = pure _
  unfold swB Env.kindOf
  rw [hb, hn]
  simp only [Bool.true_and]
  rfl

noncomputable def asg2Ok (nm : List Str) (sn : Nms) (p1 i1 p2 i2 : Nat) (a b : X) : Bool :=
  !(sn.lookup (nmAt nm i1) == some .local) ||
  (sn.lookup (nmAt nm i1) == some .local && sn.lookup (nmAt nm i2) == some .local && (ps p2).line == (ps p1).line && nmAt nm i1 != nmAt nm i2 && !([deX nm a, deX nm b].all (foldedForSure 8)) && !([deX nm a, deX nm b].all (constantsAlone 8)))

mutual
noncomputable def wfS (nm : List Str) (sn : Nms) : S → Bool
  | .asg _ _ _ x => wfX nm sn x
  | .asgOwn .. => false
  | .asg2 _ _ p1 i1 p2 i2 _ a b => wfX nm sn a && wfX nm sn b && asg2Ok nm sn p1 i1 p2 i2 a b
  | .aug _ _ i _ x => nameOk nm i && wfX nm sn x
  | .iff _ c a b => wfX nm sn c && wfSL nm sn a && wfSL nm sn b
  | .forr _ t it b o => wfI nm sn it && (!itTwo it || isT2 t) && wfSL nm sn b && wfSL nm sn o && (match it with | .own .. => false | _ => true)
  | .whil _ c b => wfX nm sn c && wfSL nm sn b
  | .ret _ x => wfX nm sn x
  | .retOwn .. => false
  | .try_ b hs _ => wfSL nm sn b && !hs.isEmpty
  | .assert _ c => wfX nm sn c
  | .del _ _ _ i ix => nameOk nm i && wfX nm sn ix
  | .app _ q q1 _ i x => nameOk nm i && wfX nm sn x && ((ps q1).endLine == (ps q).line)
  | .raise _ => true
noncomputable def wfSL (nm : List Str) (sn : Nms) : SL → Bool
  | .nil => true
  | .cons x xs => wfS nm sn x && wfSL nm sn xs
end

/-- what a statement may leave, in a frame that does not gain or lose an owned list -/
noncomputable def Runs (C : Cx prog w) (A : Around) (t : Env → Sem Flow) (ex : Sto → Option (Fl × Sto)) (nm : List Str) (sn : Nms) : Prop :=
  ∀ (M : Gh) (Ch : Pr) (env : Env) (σ : Sto) (s : Shared), FS C M Ch nm sn nm.length env σ s → ∀ r, ex σ = some r → ∀ (Q : Flow → Shared → Prop) (E : Value → Shared → Prop),
    (∀ f s' M', M.le M' → Adv Ch s.gens.size s s' → FS C M' Ch nm sn nm.length env r.2 s' → FlR M' s'.heap r.1 f → Q f s') → wpAny (model prog w) A (t env) Q E s
noncomputable def PS (C : Cx prog w) (A : Around) (st : S) : Prop := ∀ (nm : List Str) (sn : Nms), wfS nm sn st = true → Runs C A (exec (deS nm st)) (exS C.K st) nm sn
noncomputable def PSL (C : Cx prog w) (A : Around) (st : SL) : Prop := ∀ (nm : List Str) (sn : Nms), wfSL nm sn st = true → Runs C A (execs (deSL nm st)) (exL C.K st) nm sn

theorem putV_ok {nm : List Str} {sn : Nms} {M : Gh} {Ch : Pr} {env : Env} {σ σ' : Sto} {s : Shared} (f : FS C M Ch nm sn nm.length env σ s) {i : Nat} {v : V} {x : Value} (e : putV i v σ = some σ') (r : VR M s.heap v x) (Q : Unit → Shared → Prop) (E : Value → Shared → Prop)
    (h : ∀ s', Adv Ch s.gens.size s s' → FS C M Ch nm sn nm.length env σ' s' → Q () s') : wpAny (model prog w) A (storeName env (nmAt nm i) x) Q E s := by
  unfold putV at e
  split at e
  · rename_i hc
    cases e
    simp only [Bool.and_eq_true, decide_eq_true_eq] at hc
    exact f.store (by rw [← f.len]; exact hc.1) hc.2 r Q E h
  · cases e

theorem advC {Ch : Pr} {s s₁ s₂ : Shared} (a : AdvE s s₁) (b : Adv Ch s₁.gens.size s₁ s₂) : Adv Ch s.gens.size s s₂ := Adv.trans (a.to (Nat.le_refl _)) b a.gsz fun x hx => Or.inl hx
theorem advCC {Ch : Pr} {s s₁ s₂ : Shared} (a : Adv Ch s.gens.size s s₁) (b : Adv Ch s₁.gens.size s₁ s₂) : Adv Ch s.gens.size s s₂ := Adv.trans a b a.gsz fun x hx => Or.inl hx
theorem advCE {Ch : Pr} {s s₁ s₂ : Shared} (a : Adv Ch s.gens.size s s₁) (b : AdvE s₁ s₂) : Adv Ch s.gens.size s s₂ := advCC a (b.to (Nat.le_refl _))

theorem ps_asg (hr : RM A C.d) (p q i : Nat) (x : X) : PS C A (.asg p q i x) := by
  intro nm sn hw M Ch env σ s f r hx Q E h
  have hwx : wfX nm sn x = true := hw
  rw [exS_asg] at hx
  obtain ⟨v, hv, hx⟩ := Option.bind_eq_some_iff.mp hx
  obtain ⟨σ', hσ, rfl⟩ := Option.map_eq_some_iff.mp hx
  have hsw := swB_ok (nm := nm) (sn := sn) (env := env) (q := q) (i := i) (line := (ps p).line) x f.kind f.names
  cases hb : swB nm sn q i x with
  | false =>
    rw [hb] at hsw
    refine wpAny_Assign_Name ((ev_ok hr x nm sn _ M Ch env σ s hwx f).1 v hv _ _ fun xv s₁ M₁ g₁ t₁ a₁ r₁ => ?_) hsw
    exact putV_ok (f.adv g₁ t₁ a₁) hσ r₁ _ _ fun s₂ a₂ f₂ => h .next s₂ M₁ g₁ (advC a₁ a₂) f₂ rfl
  | true =>
    rw [hb] at hsw
    cases x <;> first | (simp [swB] at hb; done) | skip
    rename_i cp sc nm' cap t it cond elt
    rw [show deS nm (.asg p q i (.comp cp sc nm' cap t it cond elt)) = .Assign [.Name (nmAt nm i) (ps q)] (deX nm (.comp cp sc nm' cap t it cond elt)) (ps p) from rfl, exec_Assign_Name_used _ _ _ _ hsw]
    refine wpAny_bind (wpAny_standAt ?_)
    show wpAny _ _ (evalThenUse (.ListComp (deX nm' elt) [⟨deT nm' t, deI nm it, deC nm' cond, 0⟩] sc (ps cp)) env (PySem.assign (.Name (nmAt nm i) (ps q)) env) >>= fun _ => pure Flow.next) Q E s
    refine wpAny_bind ?_
    obtain ⟨final, rfl, hp, k⟩ := comp_any hr.handled cp sc nm' cap t (evi_ok hr it) (evc_ok hr cond) (ev_ok hr elt) hwx f hv (use := some (PySem.assign (.Name (nmAt nm i) (ps q)) env)) (fun _ s' => Q .next s') E
    show wpAny _ _ (do let _ ← comprehension (.ListComp (deX nm' elt) [⟨deT nm' t, deI nm it, deC nm' cond, 0⟩] sc (ps cp)) sc env (deI nm it).pos (newList []) false (eval (deI nm it) env) (some (PySem.assign (.Name (nmAt nm i) (ps q)) env))) _ _ _
    refine wpAny_bind (wpAny_mono (k fun acc L s'' τ' hτ htb a hL ⟨m, hn⟩ rr => ?_) (fun _ _ hq => wpAny_pure (wpAny_pure hq)) fun _ _ e => e)
    show wpAny _ _ _ _ _ _
    obtain ⟨oL, _, _, hoL, _⟩ := id hn
    have fg := f.grow a (W := fun b => b = L) (τ := τ') (fun b hb => by rw [hb]; exact ⟨hL, _, hoL⟩) hτ htb
    refine wpAny_assign_Name (putV_ok fg hσ rr _ _ fun s₃ a₃ f₃ => ?_)
    have hCL : ∀ b, Ch b → ¬ b = L := fun b hb z => f.mfresh (z ▸ hL) (f.sub b hb).1
    refine ⟨m, hn.at fun o e => a₃.keep _ o (fun z => hCL _ z rfl) e, fun h' hs' => ?_⟩
    have hs' : Heap.SameBut L s₃.heap h' := hs'
    have aw : AdvW (fun b => b = L) s.gens.size s₃ { s₃ with heap := h' } := AdvW.ext (a := L) (k := s₃.toks) rfl hs'.extBut (Nat.le_refl _)
    have f₄ := f₃.leave aw (fun b hb => Or.inr hb) (fun b hb => f.old (by rw [hb]; exact hL)) hCL (fun i c hi hl hc z => f.mfresh (z ▸ hL) (f.cm i c hi hl hc)) (M' := M.m) (fun b => ⟨fun hb => ⟨Or.inl hb, fun z => f.mfresh (z ▸ hL) hb⟩, fun hb => hb.1.elim id fun z => absurd z hb.2⟩)
    exact h .next _ ⟨M.m, τ'⟩ ⟨rfl, hτ⟩ ((advC a a₃).transW aw (Nat.le_refl _) fun x hx => by rw [hx]; exact hL) f₄ rfl

end Mine

namespace Mine
open PySem PySem.W PySem.Calls PyProof.Rows

variable {prog : Program} {w : World} {C : Cx prog w} {A : Around}

theorem ps_asg2 (hr : RM A C.d) (p q p1 i p2 j q' : Nat) (a b : X) : PS C A (.asg2 p q p1 i p2 j q' a b) := by
  intro nm sn hw M Ch env σ s f r hx Q E h
  replace hw : (_ && _) = true := hw
  simp only [Bool.and_eq_true] at hw
  obtain ⟨⟨wa, wb⟩, wo⟩ := hw
  rw [exS_asg2] at hx
  obtain ⟨v, hv, hx⟩ := Option.bind_eq_some_iff.mp hx
  obtain ⟨u, hu, hx⟩ := Option.bind_eq_some_iff.mp hx
  obtain ⟨σ₁, h1, hx⟩ := Option.bind_eq_some_iff.mp hx
  obtain ⟨σ₂, h2, rfl⟩ := Option.map_eq_some_iff.mp hx
  have hpv : v.plain = true ∧ i < σ.length := by
    unfold putV at h1
    split at h1
    · rename_i hc; simp only [Bool.and_eq_true, decide_eq_true_eq] at hc; exact ⟨hc.2, hc.1⟩
    · cases h1
  have e1 : σ₁ = σ.set i (some v) := by
    unfold putV at h1
    split at h1
    · cases h1; rfl
    · cases h1
  have hpu : u.plain = true ∧ j < σ.length := by
    unfold putV at h2
    split at h2
    · rename_i hc; simp only [Bool.and_eq_true, decide_eq_true_eq] at hc
      refine ⟨hc.2, ?_⟩
      rw [e1, List.length_set] at hc; exact hc.1
    · cases h2
  have e2 : σ₂ = (σ.set i (some v)).set j (some u) := by
    unfold putV at h2
    split at h2
    · cases h2; rw [e1]
    · cases h2
  have hlim := lim_le
  have hvals : evL C.K (.cons a (.cons b .nil)) σ = some [v, u] := by rw [evL_cons, hv, evL_cons, hu]; rfl
  have htup : ∀ (Q' E' : Value → Shared → Prop), (∀ xv yv s₁ M₁ T, M.le M₁ → FS C M₁ Ch nm sn nm.length env σ s₁ → AdvE s s₁ → VR M₁ s₁.heap v xv → VR M₁ s₁.heap u yv → PT s₁.heap T #[xv, yv] → ¬ M₁.m T → Q' (.ref T) s₁) →
      wpAny (model prog w) A (eval (.Tuple [deX nm a, deX nm b] 0 (ps q')) env) Q' E' s := by
    intro Q' E' k
    refine Tuple_ ?_
    rw [show backTo (ps q') (starEach [deX nm a, deX nm b] env) = trs nm env (.cons a (.cons b .nil)) from back_star (nm := nm) (ps q') (.cons a (.cons b .nil))]
    refine evl_ok hr (.cons a (.cons b .nil)) nm sn _ M Ch env σ s (by simp [wfL, wa, wb]) f _ hvals _ _ fun ys s₁ M₁ g₁ t₁ a₁ r₁ => ?_
    obtain ⟨xv, ys, rfl, rx, ⟨yv, zs, rfl, ry, rz⟩⟩ := r₁
    rw [show zs = [] from rz]
    have f₁ := f.adv g₁ t₁ a₁
    have ap : AdvE s₁ { s₁ with heap := s₁.heap.push { cls := .type "tuple", data := .seq #[xv, yv] } } := AdvE.push
    refine wpAny_newTuple (k xv yv _ M₁ s₁.heap.objs.size g₁ (f₁.adv .refl f₁.tb ap) (a₁.trans ap) (rx.keep ap.st) (ry.keep ap.st) ⟨0, Heap.get?_push_size _ rfl⟩ f₁.al.fresh) (by
      show 2 ≤ sizeLine
      rw [sizeLine_eq]; lia)
  have hlen : nm.length = σ.length := f.len.symm
  by_cases hk : sn.lookup (nmAt nm i) = some .local
  · -- both are plain names: stored the other way about
    have wo' : sn.lookup (nmAt nm j) = some .local ∧ (ps p2).line = (ps p1).line ∧ nmAt nm i ≠ nmAt nm j ∧ ([deX nm a, deX nm b].all (foldedForSure 8)) = false ∧ ([deX nm a, deX nm b].all (constantsAlone 8)) = false := by
      unfold asg2Ok at wo
      rw [hk] at wo
      simp only [beq_self_eq_true, Bool.not_true, Bool.false_or, Bool.true_and, Bool.and_eq_true, beq_iff_eq, bne_iff_ne, ne_eq, Bool.not_eq_true'] at wo
      obtain ⟨⟨⟨⟨h1, h2⟩, h3⟩, h4⟩, h5⟩ := wo
      exact ⟨h1, h2, h3, h4, h5⟩
    obtain ⟨hk2, hl2, hne, hf, hc⟩ := wo'
    refine Assign_Tuple_swapped (names := [nmAt nm i, nmAt nm j]) (htup _ _ fun xv yv s₁ M₁ T g₁ f₁ a₁ rx ry hT hMT => ?_) rfl
      (sw_both f.kind (by unfold Env.kindOf; rw [f.names]; exact hk) (by unfold Env.kindOf; rw [f.names]; exact hk2) hl2 hne hf hc)
    refine wpAny_unpackItems_tuple (items := #[xv, yv]) hr.handled hT.tuple fun h' he => ?_
    have ae : AdvE s₁ { s₁ with heap := h' } := AdvE.heap fun b o e => he b o (Nat.ne_of_lt (Heap.lt_size e)) e
    have f₂ : FS C M₁ Ch nm sn nm.length env σ { s₁ with heap := h' } := f₁.adv .refl (f₁.tb.mono (Nat.le_refl _)) ae
    show wpAny _ _ (assignInOrder [fun x => bindName env (nmAt nm j) x, fun x => bindName env (nmAt nm i) x] [yv, xv]) _ _ _
    refine wpAny_assignInOrder_more (wpAny_bindName (f₂.store (i := j) (v := u) (by rw [hlen]; exact hpu.2) hpu.1 (ry.keep ae.st) _ _ fun s₃ a₃ f₃ => ?_))
    refine wpAny_assignInOrder_more (wpAny_bindName (f₃.store (i := i) (v := v) (by rw [hlen]; exact hpv.2) hpv.1 (VR.but (fun b o hb e => a₃.keep b o (fun z => hb (f₂.sub b z).1) e) hpv.1 (rx.keep ae.st)) _ _ fun s₄ a₄ f₄ => ?_))
    refine wpAny_assignInOrder_none (h .next s₄ M₁ g₁ (advC (a₁.trans ae) (advCC a₃ a₄)) ?_ rfl)
    have hij : i ≠ j := fun z => hne (by rw [z])
    show FS C M₁ Ch nm sn nm.length env σ₂ s₄
    rw [e2]
    rwa [List.set_comm _ _ hij.symm] at f₄
  · refine Assign_Tuple (htup _ _ fun xv yv s₁ M₁ T g₁ f₁ a₁ rx ry hT hMT => ?_) rfl (sw_not (by unfold Env.kindOf; rw [f.names]; exact hk))
    have hput : putT nm.length (.t2 q p1 i p2 j) (.tup [v, u]) σ = some σ₂ := by
      simp only [putT]
      rw [if_pos (by simp [hpv, hpu, hlen]), e2]
    exact f₁.assign hr.handled hput (x := .ref T) ⟨T, #[xv, yv], rfl, hMT, hT, xv, [yv], rfl, rx, yv, [], rfl, ry, rfl⟩ _ _ fun s₂ a₂ f₂ => h .next s₂ M₁ g₁ (advC a₁ a₂) f₂ rfl

theorem ps_aug (hr : RM A C.d) (p q i : Nat) (op : Operator) (x : X) : PS C A (.aug p q i op x) := by
  intro nm sn hw M Ch env σ s f r hx Q E h
  replace hw : (_ && _) = true := hw
  simp only [Bool.and_eq_true] at hw
  obtain ⟨wi, wx⟩ := hw
  have wi := nameOk_ok wi
  rw [exS_aug] at hx
  obtain ⟨v, hv, hx⟩ := Option.bind_eq_some_iff.mp hx
  obtain ⟨u, hu, hx⟩ := Option.bind_eq_some_iff.mp hx
  obtain ⟨z, hz, hx⟩ := Option.bind_eq_some_iff.mp hx
  obtain ⟨σ', hσ, rfl⟩ := Option.map_eq_some_iff.mp hx
  refine wpAny_AugAssign_Name ?_
  have hload : ∀ (Q E : Value → Shared → Prop), (∀ x s', AdvE s s' → VR M s'.heap v x → Q x s') → wpAny (model prog w) A (loadName env (nmAt nm i)) Q E s := by
    intro Q E k
    obtain ⟨m, hn, hs⟩ := f.vals
    obtain ⟨x, hl, hvv⟩ := hs i (by rw [← f.len]; exact at_lt hv)
    obtain ⟨y, rfl, ry, _⟩ := hvv v hv
    rcases hl with ⟨hk, hm⟩ | ⟨hk, c, hcl, hx⟩
    · exact wpAny_loadName_local f.kind (by unfold Env.kindOf; rw [f.names]; exact hk) hn hm (k _ _ Adv.refl ry)
    · rcases hk with hk | hk
      · exact wpAny_loadName_cell f.kind (by unfold Env.kindOf; rw [f.names]; exact hk) hcl hx (k _ _ Adv.refl ry)
      · exact wpAny_loadName_free f.kind (by unfold Env.kindOf; rw [f.names]; exact hk) hcl hx (k _ _ Adv.refl ry) wi.2
  refine hload _ _ fun xv s₁ a₁ r₁ => ?_
  have f₁ := f.adv .refl (f.tb.mono a₁.toks) a₁
  refine (ev_ok hr x nm sn _ M Ch env σ s₁ wx f₁).1 u hu _ _ fun yv s₂ M₂ g₂ t₂ a₂ r₂ => ?_
  have f₂ := f₁.adv g₂ t₂ a₂
  refine augV_ok hz f₂.tb f₂.t ((r₁.keep a₂.st).up g₂) r₂ _ _ fun zv s₃ M₃ g₃ t₃ a₃ r₃ => ?_
  exact putV_ok (f₂.adv g₃ t₃ a₃) hσ r₃ _ _ fun s₄ a₄ f₄ => h .next s₄ M₃ (g₂.trans g₃) (advC ((a₁.trans a₂).trans a₃) a₄) f₄ rfl

theorem ps_iff (hr : RM A C.d) (p : Nat) (c : X) {a b : SL} (ha : PSL C A a) (hb : PSL C A b) : PS C A (.iff p c a b) := by
  intro nm sn hw M Ch env σ s f r hx Q E h
  replace hw : (_ && _) = true := hw
  simp only [Bool.and_eq_true] at hw
  obtain ⟨⟨wc, wa⟩, wb⟩ := hw
  rw [exS_iff] at hx
  obtain ⟨t, ht, hx⟩ := Option.bind_eq_some_iff.mp hx
  obtain ⟨t', e, k⟩ := (ev_ok hr c nm sn _ M Ch env σ s wc f).2 _ (unB_some ht)
  cases e
  refine wpAny_If (k _ _ fun s₁ M₁ g₁ t₁ a₁ => ?_)
  have f₁ := f.adv g₁ t₁ a₁
  cases t with
  | true =>
    simp only [if_true] at hx ⊢
    exact ha nm sn wa M₁ Ch env σ s₁ f₁ r hx Q E fun f' s₂ M₂ g₂ a₂ f₂ hf => h f' s₂ M₂ (g₁.trans g₂) (advC a₁ a₂) f₂ hf
  | false =>
    simp only [Bool.false_eq_true, if_false] at hx ⊢
    exact hb nm sn wb M₁ Ch env σ s₁ f₁ r hx Q E fun f' s₂ M₂ g₂ a₂ f₂ hf => h f' s₂ M₂ (g₁.trans g₂) (advC a₁ a₂) f₂ hf

theorem ps_ret (hr : RM A C.d) (p : Nat) (x : X) : PS C A (.ret p x) := by
  intro nm sn hw M Ch env σ s f r hx Q E h
  rw [exS_ret] at hx
  obtain ⟨v, hv, hx⟩ := Option.bind_eq_some_iff.mp hx
  split at hx
  · rename_i hp
    cases hx
    exact wpAny_Return_some ((ev_ok hr x nm sn _ M Ch env σ s hw f).1 v hv _ _ fun xv s₁ M₁ g₁ t₁ a₁ r₁ => h _ s₁ M₁ g₁ (a₁.to (Nat.le_refl _)) (f.adv g₁ t₁ a₁) ⟨xv, rfl, r₁, hp⟩)
  · cases hx

theorem ps_try {b : SL} (hb : PSL C A b) (hs : List ExceptHandler) (p : Nat) : PS C A (.try_ b hs p) := by
  intro nm sn hw M Ch env σ s f r hx Q E h
  replace hw : (_ && _) = true := hw
  simp only [Bool.and_eq_true, Bool.not_eq_true'] at hw
  cases hs with
  | nil => exact absurd hw.2 (by decide)
  | cons h₀ hs =>
    refine wpAny_Try_except (hb nm sn hw.1 M Ch env σ s f r hx _ _ fun f' s₂ M₂ g₂ a₂ f₂ hf => ?_)
    cases f' with
    | next => exact wpAny_execs_nil (h _ s₂ M₂ g₂ a₂ f₂ hf)
    | brk => exact h _ s₂ M₂ g₂ a₂ f₂ hf
    | cont => exact h _ s₂ M₂ g₂ a₂ f₂ hf
    | ret x => exact h _ s₂ M₂ g₂ a₂ f₂ hf

theorem ps_assert (hr : RM A C.d) (p : Nat) (c : X) : PS C A (.assert p c) := by
  intro nm sn hw M Ch env σ s f r hx Q E h
  rw [exS_assert] at hx
  obtain ⟨t, ht, hx⟩ := Option.bind_eq_some_iff.mp hx
  obtain ⟨t', e, k⟩ := (ev_ok hr c nm sn _ M Ch env σ s hw f).2 _ (unB_some ht)
  cases e
  cases t with
  | false => simp at hx
  | true =>
    simp only [if_true] at hx
    cases hx
    exact wpAny_Assert_holds (k _ _ fun s₁ M₁ g₁ t₁ a₁ => ⟨rfl, h .next s₁ M₁ g₁ (a₁.to (Nat.le_refl _)) (f.adv g₁ t₁ a₁) rfl⟩)

theorem ownAt_some {σ : Sto} {i : Nat} {vs : List V} (h : ownAt σ i = some vs) : σ.at i = some (.olst vs) := by
  unfold ownAt at h
  split at h
  · cases h; assumption
  · cases h

theorem VRs.erase {M : Gh} {h : Heap} : ∀ {k : Nat} {vs : List V} {xs : List Value}, VRs M h vs xs → VRs M h (vs.eraseIdx k) (xs.eraseIdx k)
  | _, [], _, e => by rw [show _ = [] from e]; rfl
  | 0, _ :: _, _, ⟨y, ys, e, _, b⟩ => by rw [e]; exact b
  | k + 1, _ :: _, _, ⟨y, ys, e, a, b⟩ => by rw [e]; exact ⟨y, _, rfl, a, VRs.erase (k := k) b⟩
theorem plains_erase : ∀ {k : Nat} {vs : List V}, plains vs = true → plains (vs.eraseIdx k) = true
  | _, [], _ => rfl
  | 0, _ :: _, h => by simp only [plains, Bool.and_eq_true] at h; exact h.2
  | k + 1, _ :: _, h => by
    simp only [plains, Bool.and_eq_true] at h
    show plains (_ :: List.eraseIdx _ k) = true
    simp only [plains, Bool.and_eq_true]; exact ⟨h.1, plains_erase h.2⟩
theorem dropLast_erase : ∀ (vs : List V), vs.dropLast = vs.eraseIdx (vs.length - 1)
  | [] => rfl
  | [_] => rfl
  | a :: b :: r => by
    have ih := dropLast_erase (b :: r)
    show a :: (b :: r).dropLast = List.eraseIdx (a :: b :: r) (r.length + 1)
    rw [ih]; rfl

theorem ps_del (hr : RM A C.d) (p q q1 i : Nat) (ix : X) : PS C A (.del p q q1 i ix) := by
  intro nm sn hw M Ch env σ s f r hx Q E h
  replace hw : (_ && _) = true := hw
  simp only [Bool.and_eq_true] at hw
  obtain ⟨wi, wx⟩ := hw
  have wi := nameOk_ok wi
  rw [exS_del] at hx
  obtain ⟨vs, hvs, hx⟩ := Option.bind_eq_some_iff.mp hx
  have hvs := ownAt_some hvs
  split at hx
  · cases hx
  rename_i hlen
  obtain ⟨k, hk, hx⟩ := Option.bind_eq_some_iff.mp hx
  split at hx
  · rename_i kk
    obtain ⟨ws, hws, rfl⟩ := Option.map_eq_some_iff.mp hx
    obtain ⟨xv, hxv, rxv, hown⟩ := f.locV hvs
    obtain ⟨D, rfl, hCD⟩ := hown vs rfl
    refine wpAny_Delete (wpAny_deleteEach_cons (wpAny_delete_Subscript (hxv.eval f wi.1 wi.2 _ _ ?_)))
    refine (ev_ok hr ix nm sn _ M Ch env σ s wx f).1 _ hk _ _ fun yv s₁ M₁ g₁ t₁ a₁ r₁ => ?_
    have f₁ := f.adv g₁ t₁ a₁
    obtain ⟨items, _, hl, rs, hp, upd⟩ := f₁.owned hvs (hxv.keep a₁)
    obtain ⟨t, rfl⟩ := r₁
    have hz := VRs.size rs
    have hlim := lim_le
    have key : ∃ kk', seqIndex? kk items.size = some kk' ∧ (items.eraseIdxIfInBounds kk').toList = (items.toList.eraseIdx kk') ∧ ws = vs.eraseIdx kk' ∧ Builtin.List.listFitsIndex kk = true := by
      unfold delAt at hws
      split at hws
      · rename_i h0
        have h0 := eq_of_beq h0
        subst h0
        split at hws
        · cases hws
        · cases hws
          rename_i x0 xs0
          refine ⟨0, seqIndex_of (Int.le_refl _) (by rw [hz]; simp), by simp, by simp, by decide⟩
      · split at hws
        · rename_i h1
          have h1 := eq_of_beq h1
          subst h1
          split at hws
          · cases hws
          · rename_i hne
            cases hws
            have hpos : 0 < vs.length := List.length_pos_iff.mpr (fun z => hne z)
            refine ⟨vs.length - 1, ?_, by simp, ?_, by decide⟩
            · rw [seqIndex_neg (by decide) (by rw [hz]; lia), hz]
              congr 1; lia
            · exact dropLast_erase vs
        · cases hws
    obtain ⟨kk', hki, her, rfl, hfit⟩ := key
    refine wpAny_delItem_plain hl hfit hki (fun h' hl' hs' => ?_) (by rw [hz]; lia)
    have hs' : Heap.SameBut D s₁.heap h' := hs'
    have hkm : Kp M₁.m s₁.heap h' := fun b o hb e => (hs'.2 b (fun z => hb (z ▸ (f₁.sub _ hCD).1))).trans e
    have hrs : VRs M₁ h' (vs.eraseIdx kk') (items.eraseIdxIfInBounds kk').toList := by
      rw [her]
      exact (VRs.but hkm hp rs).erase
    obtain ⟨f₂, a₂⟩ := upd h' _ (vs.eraseIdx kk') s₁.toks hl' hs' hrs (plains_erase hp) (Nat.le_refl _)
    exact wpAny_deleteEach_nil (h .next _ M₁ g₁ (advC a₁ a₂) f₂ rfl)
  · cases hx

theorem ps_app (hr : RM A C.d) (p q q1 q2 i : Nat) (x : X) : PS C A (.app p q q1 q2 i x) := by
  intro nm sn hw M Ch env σ s f r hx Q E h
  replace hw : (_ && _) = true := hw
  simp only [Bool.and_eq_true] at hw
  obtain ⟨⟨wi, wx⟩, wline⟩ := hw
  have wi := nameOk_ok wi
  rw [exS_app] at hx
  obtain ⟨vs, hvs, hx⟩ := Option.bind_eq_some_iff.mp hx
  have hvs := ownAt_some hvs
  obtain ⟨v, hv, hx⟩ := Option.bind_eq_some_iff.mp hx
  split at hx
  · rename_i hc
    cases hx
    simp only [Bool.and_eq_true, decide_eq_true_eq] at hc
    obtain ⟨xv, hxv, rxv, hown⟩ := f.locV hvs
    obtain ⟨D, rfl, hCD⟩ := hown vs rfl
    have hlim := lim_le
    refine wpAny_Expr (wpAny_Call_append rfl ?_ wline (one_arg _ x) (hxv.eval f wi.1 wi.2 _ _ ?_)) (by unfold interactive; rw [f.kind]; rfl) rfl
    · rw [one_arg]; rfl
    obtain ⟨items₀, _, ⟨n₀, hl₀⟩, _, _, _⟩ := f.owned hvs hxv
    refine ⟨D, items₀, rfl, ⟨_, n₀, hl₀, rfl, rfl, rfl⟩, ?_⟩
    refine (ev_ok hr x nm sn _ M Ch env σ s wx f).1 v hv _ _ fun yv s₁ M₁ g₁ t₁ a₁ r₁ => ?_
    have f₁ := f.adv g₁ t₁ a₁
    obtain ⟨items, _, hl, rs, hp, upd⟩ := f₁.owned hvs (hxv.keep a₁)
    have hz := VRs.size rs
    refine wpAny_list_append_plain hl (fun h' hl' hs' => ?_) (by rw [hz]; lia)
    have hs' : Heap.SameBut D s₁.heap h' := hs'
    have hkm : Kp M₁.m s₁.heap h' := fun b o hb e => (hs'.2 b (fun z => hb (z ▸ (f₁.sub _ hCD).1))).trans e
    obtain ⟨f₂, a₂⟩ := upd h' (items.push yv) (vs ++ [v]) s₁.toks hl' hs' (by
      rw [Array.toList_push]
      exact VRs.append (VRs.but hkm hp rs) ⟨yv, [], rfl, VR.but hkm hc.1 r₁, rfl⟩) (by rw [plains_append, hp]; simp [plains, hc.1]) (Nat.le_refl _)
    exact h .next _ M₁ g₁ (advC a₁ a₂) f₂ rfl
  · cases hx

end Mine

namespace Mine
open PySem PySem.W PySem.Calls PyProof.Rows

variable {prog : Program} {w : World} {C : Cx prog w} {A : Around}

theorem FlR.mono {M M' : Gh} {h : Heap} {fl : Fl} {f : Flow} (hm : ∀ b, M'.m b → M.m b ∨ h.get? b = none) (ht : ∀ t u, M.τ t = some u → M'.τ t = some u) (x : FlR M h fl f) : FlR M' h fl f := by
  cases fl with
  | ret v => obtain ⟨y, e, r, p⟩ := x; exact ⟨y, e, VR.less hm ht p r, p⟩
  | _ => exact x

/-- the frame after a step that is none of its own, with other addresses to keep away from -/
theorem FS.change {M₂ M' : Gh} {Ch : Pr} {nm : List Str} {sn : Nms} {n : Nat} {env : Env} {σ : Sto} {s s' : Shared} (f : FS C M₂ Ch nm sn n env σ s) {X : Pr} {k : Nat} (a : AdvW X k s s') (h1 : ∀ b, X b → M₂.m b) (h2 : ∀ b, X b → ¬ C.Old b) (h3 : ∀ b, Ch b → ¬ X b)
    (h4 : ∀ i c, i < nm.length → sn.lookup (nmAt nm i) ≠ some .local → env.cells.lookup (nmAt nm i) = some c → ¬ X c) (hτ : M₂.τ = M'.τ) (hM1 : ∀ b, M'.m b → M₂.m b ∨ s.heap.get? b = none) (hM2 : Al M'.m s'.heap) (hM3 : ∀ b, M₂.m b → ¬ X b → M'.m b) : FS C M' Ch nm sn n env σ s' := by
  obtain ⟨m, hn, hv⟩ := f.vals
  have hkm : Kp M₂.m s.heap s'.heap := fun b o hb e => a.keep b o (fun z => hb (h1 b z)) e
  -- a value on its way
  have go : ∀ {v : V} {y : Value}, v.plain = true → VR M₂ s.heap v y → VR M' s'.heap v y := fun {v y} hp r => by
    have r2 : VR ⟨fun b => M'.m b ∨ M₂.m b, M'.τ⟩ s.heap v y := VR.less (M' := ⟨fun b => M'.m b ∨ M₂.m b, M'.τ⟩) (fun b hb => hb.elim (hM1 b) Or.inl) (fun t u e => by rw [← hτ]; exact e) hp r
    have r3 : VR ⟨fun b => M'.m b ∨ M₂.m b, M'.τ⟩ s'.heap v y := VR.but (fun b o hb e => a.keep b o (fun z => hb (Or.inr (h1 b z))) e) hp r2
    exact VR.less (M := ⟨fun b => M'.m b ∨ M₂.m b, M'.τ⟩) (fun b hb => Or.inl (Or.inl hb)) (fun _ _ e => e) hp r3
  have gos : ∀ {vs : List V} {ys : List Value}, plains vs = true → VRs M₂ s.heap vs ys → VRs M' s'.heap vs ys := fun {vs ys} hp r => by
    have r2 : VRs ⟨fun b => M'.m b ∨ M₂.m b, M'.τ⟩ s.heap vs ys := VRs.less (M' := ⟨fun b => M'.m b ∨ M₂.m b, M'.τ⟩) (fun b hb => hb.elim (hM1 b) Or.inl) (fun t u e => by rw [← hτ]; exact e) hp r
    have r3 : VRs ⟨fun b => M'.m b ∨ M₂.m b, M'.τ⟩ s'.heap vs ys := VRs.but (fun b o hb e => a.keep b o (fun z => hb (Or.inr (h1 b z))) e) hp r2
    exact VRs.less (M := ⟨fun b => M'.m b ∨ M₂.m b, M'.τ⟩) (fun b hb => Or.inl (Or.inl hb)) (fun _ _ e => e) hp r3
  refine ⟨f.kind, f.names, f.gl, f.bl, C.stay _ _ f.g fun b o hb e => a.keep b o (fun z => h2 b z hb) e, Nat.le_trans f.t a.toks, fun t ht => f.tb.mono a.toks t (by rw [hτ]; exact ht), hM2, fun b hb => ⟨hM3 b (f.sub b hb).1 (h3 b hb), (f.sub b hb).2⟩, f.len, f.loc,
    ⟨m, hn.at fun o e => a.keep _ o (h3 _ f.loc) e, fun i hi => ?_⟩, f.inj, f.wr, f.one, hM3 _ f.ml (h3 _ f.loc), f.nd, f.wk, f.pl, fun i c hi hl hc => hM3 _ (f.cm i c hi hl hc) (h4 i c hi hl hc)⟩
  obtain ⟨x, hl, hy⟩ := hv i hi
  refine ⟨x, ?_, fun v e => ?_⟩
  · rcases hl with h | ⟨hk, c, hc, o, ho, hd⟩
    · exact Or.inl h
    · exact Or.inr ⟨hk, c, hc, o, a.keep c o (h4 i c hi (by rcases hk with e | e <;> rw [e] <;> decide) hc) ho, hd⟩
  · obtain ⟨y, rfl, r, hown⟩ := hy v e
    refine ⟨y, rfl, ?_, hown⟩
    rcases f.pl i v e with hp | ⟨us, rfl, hp⟩
    · exact go hp r
    · obtain ⟨a', its, rfl, hM', hl', rs⟩ := r
      obtain ⟨b, hb, hcb⟩ := hown us rfl
      cases hb
      exact ⟨a', its, rfl, hM3 _ hM' (h3 _ hcb), hl'.at fun o e => a.keep _ o (h3 _ hcb) e, gos hp rs⟩

theorem FS.iff {M M' : Gh} {Ch : Pr} {nm : List Str} {sn : Nms} {n : Nat} {env : Env} {σ : Sto} {s : Shared} (f : FS C M Ch nm sn n env σ s) (hm : M.m = M'.m) (hτ : M.τ = M'.τ) : FS C M' Ch nm sn n env σ s := by
  obtain ⟨a, b⟩ := M; obtain ⟨a', b'⟩ := M'
  cases hm; cases hτ; exact f

/-- a loop over a made iterator -/
structure LI (C : Cx prog w) (M₁ : Gh) (Ch : Pr) (nm : List Str) (sn : Nms) (env : Env) (s s₁ : Shared) (L : Nat) (st : Pr → Nat → Shared → Prop) (cl : Nat → Sto → Option (Fl × Sto)) (r : Fl × Sto) (i : Nat) (σ' : Sto) (W : Pr) (τi : Tok → Option Str) (s' : Shared) : Prop where
  hi : i ≤ L
  hst : st W i s'
  hW : ∀ b, W b → s₁.heap.get? b = none
  hτ : ∀ t u, M₁.τ t = some u → τi t = some u
  hf : FS C ⟨fun b => M₁.m b ∨ W b, τi⟩ Ch nm sn nm.length env σ' s'
  hcomp : cl i σ' = some r
  hadv : Adv Ch s.gens.size s s'
  hgs : s₁.gens.size ≤ s'.gens.size
  hsl : ∀ b o, s₁.heap.get? b = some o → ∃ o', s'.heap.get? b = some o'

theorem loop_ok (hr : RM A C.d) {nm : List Str} {sn : Nms} {t : T} {two : Bool} (htw : TgOk two (deT nm t)) {body els : SL} (hbody : Runs C A (execs (deSL nm body)) (exL C.K body) nm sn) (hels : Runs C A (execs (deSL nm els)) (exL C.K els) nm sn)
    {M M₁ : Gh} {Ch : Pr} {env : Env} {σ : Sto} {s s₁ s₂ : Shared} (f : FS C M Ch nm sn nm.length env σ s) (g₁ : M.le M₁) (t₁ : Tb M₁ s₁.toks) (a₁ : AdvE s s₁) {vs : List V} {itv : Value} {W₀ : Pr} (im : GenMade prog w A C.G two vs M₁ s₁ itv W₀ s₂)
    {r : Fl × Sto} (hx : forL (putT σ.length t) (exL C.K body) (exL C.K els) vs σ = some r) (Q : Flow → Shared → Prop) (E : Value → Shared → Prop)
    (h : ∀ f s' M', M.le M' → Adv Ch s.gens.size s s' → FS C M' Ch nm sn nm.length env r.2 s' → FlR M' s'.heap r.1 f → Q f s') :
    codeAny (model prog w) A (.forLoop (deT nm t) itv (deSL nm body) (deSL nm els) env) (fun r s' => match r with | .ok f => Q f s' | .error e => cameBackBy (model prog w) A env E e s') s₂ := by
  have f₁ := f.adv g₁ t₁ a₁
  have a₂ : AdvE s s₂ := a₁.trans im.adv
  obtain ⟨st, K, st0⟩ := im.ok
  have fl : FS C ⟨fun b => M₁.m b ∨ W₀ b, M₁.τ⟩ Ch nm sn nm.length env σ s₂ := f₁.grow im.adv im.fresh (fun _ _ e => e) (fun t ht => t₁.mono im.adv.toks t ht)
  have hChW : ∀ {W : Pr}, (∀ b, W b → s₁.heap.get? b = none) → ∀ b, Ch b → ¬ W b := fun hW b hb z => f₁.mfresh (hW b z) (f₁.sub b hb).1
  have hcW : ∀ {W : Pr}, (∀ b, W b → s₁.heap.get? b = none) → ∀ i c, i < nm.length → sn.lookup (nmAt nm i) ≠ some .local → env.cells.lookup (nmAt nm i) = some c → ¬ W c := fun hW i c hi hl hc z => f₁.mfresh (hW c z) (f₁.cm i c hi hl hc)
  have hWold : ∀ {W : Pr}, (∀ b, W b → s₁.heap.get? b = none) → ∀ b, W b → ¬ C.Old b := fun hW b hb => f.old (a₁.none_of (hW b hb))
  have hMCh : ∀ b, Ch b → M₁.m b := fun b hb => (f₁.sub b hb).1
  -- to leave the iterator behind
  have leave : ∀ {W : Pr} {τi : Tok → Option Str} {σ' : Sto} {s' s'' : Shared} {k : Nat}, (∀ b, W b → s₁.heap.get? b = none) → (∀ t u, M₁.τ t = some u → τi t = some u) → FS C ⟨fun b => M₁.m b ∨ W b, τi⟩ Ch nm sn nm.length env σ' s' → AdvW W k s' s'' →
      M.le ⟨M₁.m, τi⟩ ∧ FS C ⟨M₁.m, τi⟩ Ch nm sn nm.length env σ' s'' := by
    intro W τi σ' s' s'' k hW hτ fi aw
    refine ⟨⟨g₁.m, fun t u e => hτ t u (g₁.τ t u e)⟩, fi.leave aw (fun b hb => Or.inr hb) (hWold hW) (hChW hW) (hcW hW) (M' := M₁.m) (fun b => ?_)⟩
    exact ⟨fun hb => ⟨Or.inl hb, fun z => f₁.mfresh (hW b z) hb⟩, fun hb => hb.1.elim id fun z => absurd z hb.2⟩
  refine codeAny_forLoop_any (fun k s' => ∃ i σ' W τi, k = vs.length + 1 - i ∧ LI C M₁ Ch nm sn env s s₁ vs.length st (fun i σ' => forL (putT nm.length t) (exL C.K body) (exL C.K els) (vs.drop i) σ') r i σ' W τi s') ?_ (vs.length + 1)
    ⟨0, σ, W₀, M₁.τ, rfl, Nat.zero_le _, st0, fun b hb => (im.fresh b hb).1, fun _ _ e => e, fl, by rw [← f.len]; exact hx, a₂.to (Nat.le_refl _), im.adv.gsz, fun b o e => ⟨o, im.adv.st b o e⟩⟩
  rintro k s' ⟨i, σ', W, τi, rfl, hi, hst, hW, hτ, hf, hcomp, hadv, hgs, hsl⟩
  have hWfr : ∀ b, W b → s.heap.get? b = none := fun b hb => a₁.none_of (hW b hb)
  have halM : Al M₁.m s'.heap := fun b hb => hf.al b (Or.inl hb)
  have halW : Al W s'.heap := fun b hb => hf.al b (Or.inr hb)
  cases hvi : vs[i]? with
  | none =>
    refine K.done W i s' _ _ hvi hst hi halM halW hf.g hf.t fun s'' aw => ?_
    have hie : i = vs.length := Nat.le_antisymm hi (List.getElem?_eq_none_iff.mp hvi)
    rw [List.drop_of_length_le (Nat.le_of_eq hie.symm)] at hcomp
    obtain ⟨g', f'⟩ := leave hW hτ hf aw
    have adv : Adv Ch s.gens.size s s'' := hadv.transW aw a₁.gsz hWfr
    refine hels _ Ch env σ' s'' f' r hcomp _ _ fun fl' s₃ M₃ g₃ a₃ f₃ hfl => ?_
    exact h fl' s₃ M₃ (g'.trans g₃) (Adv.trans adv a₃ adv.gsz fun x hx => Or.inl hx) f₃ hfl
  | some v =>
    rw [drop_at hvi] at hcomp
    unfold forL at hcomp
    obtain ⟨σ₂, hput, hcomp⟩ := Option.bind_eq_some_iff.mp hcomp
    obtain ⟨⟨fl', σ₃⟩, hb, hcomp⟩ := Option.bind_eq_some_iff.mp hcomp
    refine next_mono (K.next W i s' v _ _ _ htw hvi hst halM halW hf.g hf.t fun x sa W' hW' halW' aa rx sta => ?_)
    have hW'fr : ∀ b, W' b → s₁.heap.get? b = none := fun b hb => (hW' b hb).elim (hW b) fun z => by
      cases e : s₁.heap.get? b with
      | none => rfl
      | some o => obtain ⟨o', ho'⟩ := hsl b o e; rw [z] at ho'; cases ho'
    have halMa : Al M₁.m sa.heap := fun b hb => by
      obtain ⟨o, ho⟩ := halM b hb
      exact ⟨o, aa.keep b o (fun z => f₁.mfresh (hW b z) hb) ho⟩
    have fa : FS C ⟨fun b => M₁.m b ∨ W' b, τi⟩ Ch nm sn nm.length env σ' sa :=
      hf.change aa (fun b hb => Or.inr hb) (hWold hW) (hChW hW) (hcW hW) rfl (fun b hb => hb.elim (fun z => Or.inl (Or.inl z)) fun z => (hW' b z).elim (fun q => Or.inl (Or.inr q)) Or.inr) (fun b hb => hb.elim (halMa b) (halW' b))
        (fun b hb hx => hb.elim Or.inl fun z => absurd z hx)
    have ada : Adv Ch s.gens.size s sa := hadv.transW aa a₁.gsz hWfr
    have rx' : VR (⟨fun b => M₁.m b ∨ W' b, τi⟩ : Gh) sa.heap v x := VR.up (M := ⟨fun b => M₁.m b ∨ W' b, M₁.τ⟩) (M' := ⟨fun b => M₁.m b ∨ W' b, τi⟩) ⟨rfl, hτ⟩ rx
    refine fa.assign hr.handled hput rx' _ _ fun sb ab fb => ?_
    have adb : Adv Ch s.gens.size s sb := Adv.trans ada ab ada.gsz fun x hx => Or.inl hx
    refine hbody _ Ch env σ₂ sb fb _ hb _ _ fun ff sc Mc gc ac fc hfl => ?_
    have adc : Adv Ch s.gens.size s sc := Adv.trans adb ac adb.gsz fun x hx => Or.inl hx
    have stc : st W' (i + 1) sc := K.keep W' _ sb sc (K.keep W' _ sa sb sta (fun b o hb e => ab.keep b o (fun z => hb.elim (hChW hW'fr b z) fun q => q (hMCh b z)) e) (fun j hj => ab.gens j hj) ab.gsz)
      (fun b o hb e => ac.keep b o (fun z => hb.elim (hChW hW'fr b z) fun q => q (hMCh b z)) e) (fun j hj => ac.gens j hj) ac.gsz
    have hlt : i < vs.length := (List.getElem?_eq_some_iff.mp hvi).1
    have fc' : FS C ⟨fun b => M₁.m b ∨ W' b, Mc.τ⟩ Ch nm sn nm.length env σ₃ sc := fc.iff gc.m rfl
    have hτc : ∀ t u, M₁.τ t = some u → Mc.τ t = some u := fun t u e => gc.τ t u (hτ t u e)
    have hgs' : s₁.gens.size ≤ sc.gens.size := Nat.le_trans hgs (Nat.le_trans aa.gsz (Nat.le_trans ab.gsz ac.gsz))
    have hsl' : ∀ b o, s₁.heap.get? b = some o → ∃ o', sc.heap.get? b = some o' := fun b o e => by
      obtain ⟨o1, e1⟩ := hsl b o e
      have e2 := aa.keep b o1 (fun z => by rw [hW b z] at e; cases e) e1
      obtain ⟨o3, e3⟩ := ab.alive b o1 e2
      exact ac.alive b o3 e3
    have hk : vs.length + 1 - (i + 1) < vs.length + 1 - i := Nat.sub_lt_sub_left (Nat.lt_succ_of_lt hlt) (Nat.lt_succ_self i)
    have hless : ∀ b, M₁.m b → Mc.m b ∨ sc.heap.get? b = none := fun b hb => Or.inl (by rw [gc.m]; exact Or.inl hb)
    cases fl' with
    | next =>
      rw [show ff = .next from hfl]
      exact ⟨_, hk, i + 1, σ₃, W', Mc.τ, rfl, hlt, stc, hW'fr, hτc, fc', hcomp, adc, hgs', hsl'⟩
    | cont =>
      rw [show ff = .cont from hfl]
      exact ⟨_, hk, i + 1, σ₃, W', Mc.τ, rfl, hlt, stc, hW'fr, hτc, fc', hcomp, adc, hgs', hsl'⟩
    | brk =>
      rw [show ff = .brk from hfl]
      cases hcomp
      obtain ⟨g', f'⟩ := leave hW'fr hτc fc' (Adv.refl (C := W') (n := 0)).toW
      exact h .next sc _ g' adc f' rfl
    | ret v =>
      cases hcomp
      obtain ⟨g', f'⟩ := leave hW'fr hτc fc' (Adv.refl (C := W') (n := 0)).toW
      obtain ⟨y, rfl, ry, py⟩ := hfl
      exact h (.ret y) sc _ g' adc f' ⟨y, rfl, VR.less (M := Mc) (M' := ⟨M₁.m, Mc.τ⟩) hless (fun _ _ e => e) py ry, py⟩

theorem ps_for (hr : RM A C.d) (p : Nat) (t : T) (it : It) {body els : SL} (hb : PSL C A body) (he : PSL C A els) : PS C A (.forr p t it body els) := by
  intro nm sn hw M Ch env σ s f r hx Q E h
  replace hw : (_ && _) = true := hw
  simp only [Bool.and_eq_true] at hw
  obtain ⟨⟨⟨⟨wi, wt⟩, wb⟩, we⟩, wo⟩ := hw
  have key : ∀ vs, evI C.K it σ = some vs → forL (putT σ.length t) (exL C.K body) (exL C.K els) vs σ = some r → wpAny (model prog w) A (exec (deS nm (.forr p t it body els)) env) Q E s := by
    intro vs hvs hx
    refine wpAny_For (evi_ok hr it nm sn _ M Ch env σ s wi f vs hvs _ _ fun s₁ itv W s₂ M₁ g₁ t₁ a₁ im => ?_) (fun x => fold_ok it x)
    exact loop_ok hr (tg_ok wt) (hb nm sn wb) (he nm sn we) f g₁ t₁ a₁ (im.gen (f.adv g₁ t₁ a₁).al) hx Q E h
  cases it with
  | own q i => cases wo
  | val x => rw [exS_forVal] at hx; obtain ⟨vs, hvs, hx⟩ := Option.bind_eq_some_iff.mp hx; exact key vs hvs hx
  | rng a b x => rw [exS_forRng] at hx; obtain ⟨vs, hvs, hx⟩ := Option.bind_eq_some_iff.mp hx; exact key vs hvs hx
  | enm a b x => rw [exS_forEnm] at hx; obtain ⟨vs, hvs, hx⟩ := Option.bind_eq_some_iff.mp hx; exact key vs hvs hx
  | gen q q' id x =>
    rw [exS_forGen] at hx
    obtain ⟨v, hv, hx⟩ := Option.bind_eq_some_iff.mp hx
    obtain ⟨vs, hvs, hx⟩ := Option.bind_eq_some_iff.mp hx
    replace wi : (_ && _) = true := wi
    simp only [Bool.and_eq_true] at wi
    obtain ⟨wg1, wg2⟩ := glOk_ok wi.2
    obtain ⟨a, hfn, hload, hcall⟩ := C.gen id v vs hvs
    obtain ⟨o, fd, ho, hd⟩ := hfn _ f.g
    refine wpAny_For (Call_Name (one_arg _ x) (Name_function_global f.kind (f.gkind wg1) (hload A env s _ _ f.gl f.bl f.g ?_) wg2)) (fun x => rfl)
    refine callWith_function (o := o) (fd := fd) (evalArgs_plain (spliced_cons ((ev_ok hr x nm sn _ M Ch env σ s wi.1 f).1 v hv _ _ fun xv s₁ M₁ g₁ t₁ a₁ r₁ => spliced_nil ⟨⟨a₁.st _ _ ho, hd⟩, ?_⟩)))
    have f₁ := f.adv g₁ t₁ a₁
    exact hcall A s₁ M₁ xv hr f₁.g f₁.t f₁.tb f₁.al r₁ _ _ fun itv W s₂ im => loop_ok hr (tg_ok wt) (hb nm sn wb) (he nm sn we) f g₁ t₁ a₁ im hx Q E h

theorem ps_whil (hr : RM A C.d) (p : Nat) (c : X) {body : SL} (hb : PSL C A body) : PS C A (.whil p c body) := by
  intro nm sn hw M Ch env σ s f r hx Q E h
  replace hw : (_ && _) = true := hw
  simp only [Bool.and_eq_true] at hw
  obtain ⟨wc, wb⟩ := hw
  rw [exS_whil] at hx
  refine wpAny_While (codeAny_whileLoop (fun k s' => ∃ σ' Mi, M.le Mi ∧ FS C Mi Ch nm sn nm.length env σ' s' ∧ whileL (evT C.K c) (exL C.K body) k σ' = some r ∧ Adv Ch s.gens.size s s') ?_ 10 ⟨σ, M, .refl, f, hx, Adv.refl⟩)
  rintro k s' ⟨σ', Mi, gi, hf, hx, hadv⟩
  cases k with
  | zero => simp [whileL] at hx
  | succ k =>
    unfold whileL at hx
    obtain ⟨b, ht, hx⟩ := Option.bind_eq_some_iff.mp hx
    obtain ⟨b', e, kk⟩ := (ev_ok hr c nm sn _ Mi Ch env σ' s' wc hf).2 _ (unB_some ht)
    cases e
    refine kk _ _ fun sa Ma ga ta aa => ?_
    have fa := hf.adv ga ta aa
    have ada : Adv Ch s.gens.size s sa := advCE hadv aa |> fun z => z
    cases b with
    | false =>
      simp only [Bool.false_eq_true, if_false] at hx ⊢
      cases hx
      exact wpAny_execs_nil (h .next sa Ma (gi.trans ga) ada fa rfl)
    | true =>
      simp only [if_true] at hx ⊢
      obtain ⟨⟨fl', σ₃⟩, hb', hx⟩ := Option.bind_eq_some_iff.mp hx
      refine hb nm sn wb Ma Ch env σ' sa fa _ hb' _ _ fun ff sc Mc gc ac fc hfl => ?_
      have adc : Adv Ch s.gens.size s sc := Adv.trans ada ac ada.gsz fun x hx => Or.inl hx
      have g' := (gi.trans ga).trans gc
      cases fl' with
      | next => rw [show ff = .next from hfl]; exact ⟨k, Nat.lt_succ_self _, σ₃, Mc, g', fc, hx, adc⟩
      | cont => rw [show ff = .cont from hfl]; exact ⟨k, Nat.lt_succ_self _, σ₃, Mc, g', fc, hx, adc⟩
      | brk => rw [show ff = .brk from hfl]; cases hx; exact h .next sc Mc g' adc fc rfl
      | ret v => cases hx; obtain ⟨y, rfl, ry, py⟩ := hfl; exact h (.ret y) sc Mc g' adc fc ⟨y, rfl, ry, py⟩

theorem psl_nil : PSL C A .nil := by
  intro nm sn hw M Ch env σ s f r hx Q E h
  cases hx
  exact wpAny_execs_nil (h .next s M .refl Adv.refl f rfl)
theorem psl_cons {x : S} {xs : SL} (hx' : PS C A x) (hxs : PSL C A xs) : PSL C A (.cons x xs) := by
  intro nm sn hw M Ch env σ s f r hx Q E h
  replace hw : (_ && _) = true := hw
  simp only [Bool.and_eq_true] at hw
  rw [exL_cons] at hx
  obtain ⟨⟨fl, σ₁⟩, h1, hx⟩ := Option.bind_eq_some_iff.mp hx
  refine wpAny_execs_cons (hx' nm sn hw.1 M Ch env σ s f _ h1 _ _ fun ff s₁ M₁ g₁ a₁ f₁ hfl => ?_)
  cases fl with
  | next =>
    rw [show ff = .next from hfl]
    exact hxs nm sn hw.2 M₁ Ch env σ₁ s₁ f₁ r hx Q E fun f' s₂ M₂ g₂ a₂ f₂ hf => h f' s₂ M₂ (g₁.trans g₂) (Adv.trans a₁ a₂ a₁.gsz fun x hx => Or.inl hx) f₂ hf
  | brk => rw [show ff = .brk from hfl]; cases hx; exact h .brk s₁ M₁ g₁ a₁ f₁ rfl
  | cont => rw [show ff = .cont from hfl]; cases hx; exact h .cont s₁ M₁ g₁ a₁ f₁ rfl
  | ret v => obtain ⟨y, rfl, ry⟩ := hfl; cases hx; exact h (.ret y) s₁ M₁ g₁ a₁ f₁ ⟨y, rfl, ry⟩

theorem ps_none {st : S} (h : ∀ σ, exS C.K st σ = none ∨ ∀ nm sn, wfS nm sn st = false) : PS C A st := by
  intro nm sn hw M Ch env σ s f r hx
  rcases h σ with h | h
  · rw [h] at hx; cases hx
  · rw [h] at hw; cases hw

mutual
theorem ex_ok (hr : RM A C.d) : ∀ st : S, PS C A st
  | .asg p q i x => ps_asg hr p q i x
  | .asgOwn p q i x => ps_none fun σ => Or.inr fun _ _ => rfl
  | .asg2 p q p1 i1 p2 i2 q' a b => ps_asg2 hr p q p1 i1 p2 i2 q' a b
  | .aug p q i op x => ps_aug hr p q i op x
  | .iff p c a b => ps_iff hr p c (exl_ok hr a) (exl_ok hr b)
  | .forr p t it b o => ps_for hr p t it (exl_ok hr b) (exl_ok hr o)
  | .whil p c b => ps_whil hr p c (exl_ok hr b)
  | .ret p x => ps_ret hr p x
  | .retOwn p q i => ps_none fun σ => Or.inr fun _ _ => rfl
  | .try_ b hs p => ps_try (exl_ok hr b) hs p
  | .assert p c => ps_assert hr p c
  | .del p q q1 i ix => ps_del hr p q q1 i ix
  | .app p q q1 q2 i x => ps_app hr p q q1 q2 i x
  | .raise st => ps_none fun σ => Or.inl rfl
theorem exl_ok (hr : RM A C.d) : ∀ st : SL, PSL C A st
  | .nil => psl_nil
  | .cons x xs => psl_cons (ex_ok hr x) (exl_ok hr xs)
end

end Mine

namespace Mine
open PySem PySem.W PySem.Calls PyProof.Rows

variable {prog : Program} {w : World} {C : Cx prog w} {A : Around} {M : Gh} {Ch : Pr} {nm : List Str} {sn : Nms} {n : Nat} {env : Env} {σ : Sto} {s s' : Shared}

/-- the frame may change more -/
theorem FS.moreCh (f : FS C M Ch nm sn n env σ s) {X : Pr} (hX : ∀ b, X b → M.m b ∧ ¬ C.Old b) : FS C M (fun b => Ch b ∨ X b) nm sn n env σ s := by
  obtain ⟨m, hn, hv⟩ := f.vals
  refine ⟨f.kind, f.names, f.gl, f.bl, f.g, f.t, f.tb, f.al, fun b hb => hb.elim (f.sub b) (hX b), f.len, Or.inl f.loc, ⟨m, hn, fun i hi => ?_⟩, f.inj, fun i c hi hl hc => Or.inl (f.wr i c hi hl hc), f.one, f.ml, f.nd, f.wk, f.pl, f.cm⟩
  obtain ⟨x, hl, hy⟩ := hv i hi
  refine ⟨x, hl, fun v e => ?_⟩
  obtain ⟨y, hx, r, o⟩ := hy v e
  exact ⟨y, hx, r, fun vs e' => let ⟨a, h1, h2⟩ := o vs e'; ⟨a, h1, Or.inl h2⟩⟩

/-- an owned list that changes no more -/
theorem FS.freeze (f : FS C M Ch nm sn n env σ s) {i : Nat} {vs : List V} (e : σ.at i = some (.olst vs)) {D : Addr} (hD : LocV env sn s.heap (nmAt nm i) (.ref D)) :
    FS C ⟨fun b => M.m b ∧ b ≠ D, M.τ⟩ (fun b => Ch b ∧ b ≠ D) nm sn n env (σ.set i (some (.lst vs))) s ∧ plains vs = true ∧ Ch D ∧ VR ⟨fun b => M.m b ∧ b ≠ D, M.τ⟩ s.heap (.lst vs) (.ref D) := by
  obtain ⟨items, hCh, ⟨nD, hoD⟩, rs, hpv, _⟩ := f.owned e hD
  obtain ⟨m, hn, hs⟩ := f.vals
  have hil : i < σ.length := at_lt e
  have hin : i < nm.length := by rw [← f.len]; exact hil
  obtain ⟨oL, _, _, hoL, hdL, _⟩ := id hn
  have hless : ∀ b, (M.m b ∧ b ≠ D) → M.m b ∨ s.heap.get? b = none := fun b hb => Or.inl hb.1
  have hcell : ∀ c x, s.heap.IsCell c x → c ≠ D := fun c x hx z => by
    obtain ⟨o, ho, hd⟩ := hx
    rw [z, hoD] at ho; cases ho; cases hd
  have hLD : env.locals ≠ D := fun z => by rw [z, hoD] at hoL; cases hoL; cases hdL
  have hcm : ∀ j c, j < nm.length → sn.lookup (nmAt nm j) ≠ some .local → env.cells.lookup (nmAt nm j) = some c → c ≠ D := fun j c hj hl hc => by
    obtain ⟨x, hl', _⟩ := hs j hj
    rcases hl' with ⟨h, _⟩ | ⟨_, c', hc', hx⟩
    · exact absurd h hl
    · rw [hc] at hc'; cases hc'; exact hcell _ _ hx
  have hval : VR ⟨fun b => M.m b ∧ b ≠ D, M.τ⟩ s.heap (.lst vs) (.ref D) := ⟨D, items, rfl, fun z => z.2 rfl, ⟨nD, hoD⟩, VRs.less (M' := ⟨fun b => M.m b ∧ b ≠ D, M.τ⟩) hless (fun _ _ e => e) hpv rs⟩
  refine ⟨⟨f.kind, f.names, f.gl, f.bl, f.g, f.t, f.tb, fun b hb => f.al b hb.1, fun b hb => ⟨⟨(f.sub b hb.1).1, hb.2⟩, (f.sub b hb.1).2⟩, by rw [List.length_set]; exact f.len, ⟨f.loc, hLD⟩, ⟨m, hn, fun j hj => ?_⟩, f.inj, fun j c hj hl hc => ⟨f.wr j c hj hl hc, hcm j c (f.wk j hj).1 hl hc⟩, fun p q us ws hp hq => ?_, ⟨f.ml, hLD⟩, f.nd, f.wk, fun p u hp => ?_, fun j c hj hl hc => ⟨f.cm j c hj hl hc, hcm j c hj hl hc⟩⟩, hpv, hCh, hval⟩
  · obtain ⟨x, hl, hy⟩ := hs j hj
    refine ⟨x, hl, fun u hu => ?_⟩
    rw [set_at hil] at hu
    by_cases hji : j = i
    · subst hji
      rw [if_pos rfl] at hu
      cases hu
      obtain ⟨y, rfl, _, _⟩ := hy _ e
      cases (LocV.unique ⟨m, hn, hl⟩ hD)
      exact ⟨_, rfl, hval, fun ws e => by cases e⟩
    · rw [if_neg hji] at hu
      obtain ⟨z, rfl, q, o⟩ := hy u hu
      rcases f.pl j u hu with hp | ⟨us, rfl, hp⟩
      · exact ⟨z, rfl, VR.less (M' := ⟨fun b => M.m b ∧ b ≠ D, M.τ⟩) hless (fun _ _ e => e) hp q, fun ws e => by rw [e] at hp; cases hp⟩
      · exact absurd (f.one j i us vs hu e) hji
  · rw [set_at hil] at hp
    by_cases h1 : p = i
    · rw [if_pos h1] at hp; cases hp
    · rw [if_neg h1] at hp; exact absurd (f.one p i us vs hp e) h1
  · rw [set_at hil] at hp
    by_cases h1 : p = i
    · rw [if_pos h1] at hp; cases hp; exact Or.inl hpv
    · rw [if_neg h1] at hp; exact f.pl p u hp

theorem VRs.scals {M k : Gh} {h : Heap} : ∀ {vs : List V} {xs : List Value}, (∀ v, v ∈ vs → scal v = true) → (∀ t u, k.τ t = some u → M.τ t = some u) → VRs k h vs xs → VRs M h vs xs
  | [], _, _, _, e => e
  | v :: vs, _, hs, ht, ⟨y, ys, e, a, b⟩ => ⟨y, ys, e, scal_any (hs v (List.mem_cons_self ..)) ht a, VRs.scals (fun u hu => hs u (List.mem_cons_of_mem _ hu)) ht b⟩

/-- texts whose value is a new list -/
noncomputable def isVarX : X → Bool
  | .var .. => true
  | _ => false
noncomputable def isGlX : X → Bool
  | .gname .. => true
  | _ => false
noncomputable def isNilX : XL → Bool
  | .nil => true
  | .cons .. => false
noncomputable def isGl1 : XL → Bool
  | .nil => false
  | .cons x xs => isGlX x && isNilX xs
noncomputable def okNew : X → Bool
  | .lst _ xs => isNilX xs
  | .meth _ _ x name ys => isVarX x && isGl1 ys && name == ("split" : Str)
  | _ => false
theorem isVarX_ok {x : X} (h : isVarX x = true) : ∃ p i, x = .var p i := by
  cases x <;> first | exact ⟨_, _, rfl⟩ | exact absurd h Bool.false_ne_true
theorem isGlX_ok {x : X} (h : isGlX x = true) : ∃ p i, x = .gname p i := by
  cases x <;> first | exact ⟨_, _, rfl⟩ | exact absurd h Bool.false_ne_true
theorem isNilX_ok {x : XL} (h : isNilX x = true) : x = .nil := by
  cases x <;> first | rfl | exact absurd h Bool.false_ne_true
theorem isGl1_ok : ∀ {x : XL} (h : isGl1 x = true), ∃ p i, x = .cons (.gname p i) .nil
  | .nil, h => absurd h Bool.false_ne_true
  | .cons x xs, h => by
    obtain ⟨h1, h2⟩ := Bool.and_eq_true_iff.mp (show (isGlX x && isNilX xs) = true from h)
    obtain ⟨p, i, rfl⟩ := isGlX_ok h1
    exact ⟨p, i, by rw [isNilX_ok h2]⟩
theorem okNew_ok {x : X} (h : okNew x = true) : (∃ p, x = .lst p .nil) ∨ ∃ p q p' i name p'' id, x = .meth p q (.var p' i) name (.cons (.gname p'' id) .nil) ∧ (name == ("split" : Str)) = true := by
  cases x with
  | lst p xs => exact Or.inl ⟨p, by rw [isNilX_ok h]⟩
  | meth p q x name ys =>
    obtain ⟨h1, h2⟩ := Bool.and_eq_true_iff.mp (show (isVarX x && isGl1 ys && name == ("split" : Str)) = true from h)
    obtain ⟨h1, h3⟩ := Bool.and_eq_true_iff.mp h1
    obtain ⟨p', i, rfl⟩ := isVarX_ok h1
    obtain ⟨p'', id, rfl⟩ := isGl1_ok h3
    exact Or.inr ⟨p, q, p', i, name, p'', id, rfl, h2⟩
  | _ => exact absurd h Bool.false_ne_true

theorem split_new {x y : Str} {t u : Tok} (h1 : x.length ≤ lim) (h2 : (y.length == 0) = false) (h3 : (decide (x.length < y.length) || decide (Builtin.Str.strKind x < Builtin.Str.strKind y)) = false)
    (h4 : (Builtin.Str.occurrences x y 0 x.length (x.length + 1)).isEmpty = false) (hM : Al M.m s.heap) (Q E : Value → Shared → Prop)
    (h : ∀ a s', AdvE s s' → s.heap.get? a = none → VR M s'.heap (.lst ((splitS x y).map (.str false))) (.ref a) → Q (.ref a) s') : wpAny (model prog w) A (call (.builtin "str.split") [.str x t, .str y u]) Q E s := by
  have hlim := lim_le
  refine call_meets F.slot_str_split (typeIs_str _ _ _) F.entry_str_split (F.args_str_split_2 _ _) (meets_str_split_sep _ _ t u h3 h2 h4 (by lia) ?_) ?_
  · rw [parts_len]
    have := StrLaws.occ_length_le x y 0 x.length (x.length + 1)
    rw [sizeLine_eq]; unfold lim at h1; lia
  · exact h _ _ (AdvE.of (St.push _ _) (Nat.le_add_right _ _)) (fresh_none _ (Nat.le_refl _)) ⟨_, _, rfl, hM.fresh, ⟨_, Heap.get?_push_size _ rfl⟩, strsFrom_vr _ _⟩

theorem new_ok (hr : RM A C.d) (f : FS C M Ch nm sn n env σ s) {x : X} (hn : okNew x = true) (hw : wfX nm sn x = true) {vs : List V} (hv : ev C.K x false σ = some (.lst vs)) (Q E : Value → Shared → Prop)
    (h : (∀ v, v ∈ vs → scal v = true) → ∀ a s', AdvE s s' → s.heap.get? a = none → VR M s'.heap (.lst vs) (.ref a) → Q (.ref a) s') : wpAny (model prog w) A (eval (deX nm x) env) Q E s := by
  rcases okNew_ok hn with ⟨p, rfl⟩ | ⟨p, q, p', i, name, p'', id, rfl, hn⟩
  · cases (show some (V.lst []) = some (V.lst vs) from hv)
    refine List_ (spliced_nil (wpAny_newList ?_ (by size_fits)))
    exact h (fun v hv => absurd hv List.not_mem_nil) _ _ AdvE.push (fresh_none _ (Nat.le_refl _)) (new_list f.al rfl)
  · rw [eq_of_beq hn] at hv hw ⊢
    replace hw : (_ && _) = true := hw
    simp only [Bool.and_eq_true, decide_eq_true_eq] at hw
    obtain ⟨⟨⟨⟨⟨wo, wl⟩, w0⟩, w30⟩, wob⟩, wline⟩ := hw
    rw [evE_meth] at hv
    obtain ⟨ov, ho, hv⟩ := Option.bind_eq_some_iff.mp hv
    obtain ⟨args, ha, hv⟩ := Option.bind_eq_some_iff.mp hv
    rw [evL_cons] at ha
    obtain ⟨g, hg, ha⟩ := Option.bind_eq_some_iff.mp ha
    cases ha
    replace hg : C.K.glob id = some g := hg
    replace ho : σ.at i = some ov := ho
    replace wl : (_ && _) = true := wl
    replace wl := Bool.and_eq_true_iff.mp wl
    have hm : ∃ n1 x1 n2 y1, ov = .str n1 x1 ∧ g = .str n2 y1 ∧ x1.length ≤ lim ∧ (y1.length == 0) = false ∧ (decide (x1.length < y1.length) || decide (Builtin.Str.strKind x1 < Builtin.Str.strKind y1)) = false ∧ (Builtin.Str.occurrences x1 y1 0 x1.length (x1.length + 1)).isEmpty = false ∧ vs = (splitS x1 y1).map (.str false) := by
      unfold methV at hv
      rw [if_neg (by decide), if_neg (by decide), if_neg (by decide), if_pos (by decide)] at hv
      cases ov <;> first | (cases hv; done) | skip
      rename_i n1 x1
      cases g <;> first | (cases hv; done) | skip
      rename_i n2 y1
      dsimp only at hv
      split at hv
      · rename_i hc
        injection hv with hv
        injection hv with hv
        simp only [Bool.and_eq_true, decide_eq_true_eq, Bool.not_eq_true'] at hc
        obtain ⟨⟨⟨hl, hy⟩, hk⟩, hf⟩ := hc
        exact ⟨_, _, _, _, rfl, rfl, hl, hy, hk, hf, hv.symm⟩
      · cases hv
    obtain ⟨n1, x1, n2, y1, rfl, rfl, h1, h2, h3, h4, rfl⟩ := hm
    refine wpAny_Call_method_lateS (base_ok wob _) rfl wline ?_
    obtain ⟨wi1, wi2⟩ := nameOk_ok wo
    refine f.var ho wi1 wi2 _ _ fun xv s₁ a₁ r₁ => ?_
    have f₁ := f.adv .refl (f.tb.mono a₁.toks) a₁
    obtain ⟨t, rfl, _⟩ := r₁
    refine ⟨"str", _, F.plainAttrs_str, F.slot_str_split, F.type_str_split, typeIs_str _ _ _, (fun _ e => nomatch e), ?_⟩
    rw [back_star]
    refine callWith_builtin rfl (evalArgs_plain (spliced_cons ?_))
    obtain ⟨g1, g2⟩ := glOk_ok wl.1
    refine Name_function_global f.kind (f.gkind g1) (C.gname id _ hg M A env s₁ f.gl f.bl f₁.g _ _ fun yv s₂ a₂ r₂ => spliced_nil ?_) g2
    have f₂ := f₁.adv .refl (f₁.tb.mono a₂.toks) a₂
    obtain ⟨u, rfl, _⟩ := r₂
    exact split_new h1 h2 h3 h4 f₂.al _ _ fun a s₃ a₃ hfr r₃ => h (fun v hv => by obtain ⟨z, _, rfl⟩ := List.mem_map.mp hv; rfl) a s₃ ((a₁.trans a₂).trans a₃) ((a₁.trans a₂).none_of hfr) r₃

noncomputable def wfF (nm : List Str) (sn : Nms) (p : Nat) (t : T) (it : It) (b o : SL) (r : Bool) : Bool := match it with
  | .own _ i => nameOk nm i && wfSL nm sn b && wfSL nm sn o && r
  | it => wfS nm sn (.forr p t it b o) && r
noncomputable def wfT1 (nm : List Str) (sn : Nms) : S → Bool → Bool
  | .asgOwn _ q i x, r => wfX nm sn x && okNew x && !(swB nm sn q i x) && r
  | .retOwn _ _ i, _ => nameOk nm i
  | .forr p t it b o, r => wfF nm sn p t it b o r
  | x, r => wfS nm sn x && r
noncomputable def wfT (nm : List Str) (sn : Nms) : SL → Bool
  | .nil => true
  | .cons x xs => wfT1 nm sn x (wfT nm sn xs)

noncomputable def RunsT (C : Cx prog w) (A : Around) (b : SL) (nm : List Str) (sn : Nms) : Prop :=
  ∀ (M : Gh) (Ch : Pr) (env : Env) (σ : Sto) (s : Shared), FS C M Ch nm sn nm.length env σ s → ∀ r, exL C.K b σ = some r → ∀ (Q : Flow → Shared → Prop) (E : Value → Shared → Prop),
    (∀ f s' M', (∀ t u, M.τ t = some u → M'.τ t = some u) → Tb M' s'.toks → (∀ b, M.m b → M'.m b ∨ Ch b) → Adv Ch s.gens.size s s' → FlR M' s'.heap r.1 f → Q f s') → wpAny (model prog w) A (execs (deSL nm b) env) Q E s

theorem top_simple (hr : RM A C.d) {x : S} {xs : SL} (hw : wfS nm sn x = true) (ih : RunsT C A xs nm sn) : RunsT C A (.cons x xs) nm sn := by
  intro M Ch env σ s f r hx Q E h
  rw [exL_cons] at hx
  obtain ⟨⟨fl, σ₁⟩, h1, hx⟩ := Option.bind_eq_some_iff.mp hx
  refine wpAny_execs_cons (ex_ok hr x nm sn hw M Ch env σ s f _ h1 _ _ fun ff s₁ M₁ g₁ a₁ f₁ hfl => ?_)
  have fin : ∀ (fl' : Fl) (f' : Flow), r = (fl', σ₁) → FlR M₁ s₁.heap fl' f' → Q f' s₁ := fun fl' f' e hf => h f' s₁ M₁ g₁.τ f₁.tb (fun b hb => Or.inl (by rw [g₁.m]; exact hb)) a₁ (by rw [e]; exact hf)
  cases fl with
  | next =>
    rw [show ff = .next from hfl]
    exact ih M₁ Ch env σ₁ s₁ f₁ r hx Q E fun f' s₂ M₂ τ₂ t₂ m₂ a₂ hf => h f' s₂ M₂ (fun t u e => τ₂ t u (g₁.τ t u e)) t₂ (fun b hb => m₂ b (by rw [g₁.m]; exact hb)) (Adv.trans a₁ a₂ a₁.gsz fun x hx => Or.inl hx) hf
  | brk => rw [show ff = .brk from hfl]; cases hx; exact fin .brk _ rfl rfl
  | cont => rw [show ff = .cont from hfl]; cases hx; exact fin .cont _ rfl rfl
  | ret v => obtain ⟨y, rfl, ry⟩ := hfl; cases hx; exact fin (.ret v) _ rfl ⟨y, rfl, ry⟩

theorem top_asgOwn (hr : RM A C.d) {p q i : Nat} {x : X} {xs : SL} (hw : wfX nm sn x = true) (hn : okNew x = true) (hsw : swB nm sn q i x = false) (ih : RunsT C A xs nm sn) : RunsT C A (.cons (.asgOwn p q i x) xs) nm sn := by
  intro M Ch env σ s f r hx Q E h
  rw [exL_cons, exS_asgOwn] at hx
  obtain ⟨⟨fl, σ₁⟩, h1, hx⟩ := Option.bind_eq_some_iff.mp hx
  obtain ⟨v, hv, h1⟩ := Option.bind_eq_some_iff.mp h1
  obtain ⟨σ', hσ, h1⟩ := Option.map_eq_some_iff.mp h1
  cases h1
  unfold putOwn at hσ
  split at hσ
  · rename_i vs
    split at hσ
    · rename_i hc
      cases hσ
      simp only [Bool.and_eq_true, decide_eq_true_eq] at hc
      obtain ⟨⟨hi, hp⟩, hno⟩ := hc
      have hno' : ∀ j us, σ.at j ≠ some (.olst us) := fun j us e => by
        unfold noOwn at hno
        have := List.all_eq_true.mp hno
        unfold Sto.at at e
        cases hj : σ[j]? with
        | none => rw [hj] at e; cases e
        | some o =>
          rw [hj] at e
          have hm := this o (List.mem_of_getElem? hj)
          simp at e; subst e; cases hm
      have hswok := swB_ok (nm := nm) (sn := sn) (env := env) (q := q) (i := i) (line := (ps p).line) x f.kind f.names
      rw [hsw] at hswok
      refine wpAny_execs_cons (wpAny_Assign_Name (new_ok hr f hn hw hv _ _ fun hsc a s₁ a₁ hfr r₁ => ?_) hswok)
      obtain ⟨a', items, e', hMa, ⟨na, hoa⟩, rs⟩ := r₁
      cases e'
      have hb₁ : Tb (⟨M.m, M.τ⟩ : Gh) s₁.toks := fun t ht => f.tb.mono a₁.toks t ht
      have fg := f.grow a₁ (W := fun b => b = a) (τ := M.τ) (fun b hb => by rw [hb]; exact ⟨hfr, _, hoa⟩) (fun _ _ e => e) hb₁
      have fg2 := fg.moreCh (X := fun b => b = a) (fun b hb => ⟨Or.inr hb, f.old (by rw [hb]; exact hfr)⟩)
      have rs2 : VRs (⟨fun b => M.m b ∨ b = a, M.τ⟩ : Gh) s₁.heap vs items.toList := by
        exact VRs.scals (k := M) hsc (fun _ _ e => e) rs
      refine fg2.storeG (v := .olst vs) (x := .ref a) (by rw [← f.len]; exact hi) (Or.inr ⟨vs, a, rfl, hp, rfl, Or.inr rfl, hno'⟩) ⟨a, items, rfl, Or.inr rfl, ⟨na, hoa⟩, rs2⟩ _ _ fun s₂ a₂ f₂ => ?_
      refine ih _ _ env _ s₂ f₂ r hx Q E fun f' s₃ M₃ τ₃ t₃ m₃ a₃ hf => ?_
      refine h f' s₃ M₃ τ₃ t₃ (fun b hb => ?_) ?_ hf
      · rcases m₃ b (Or.inl hb) with z | z | z
        · exact Or.inl z
        · exact Or.inr z
        · exact absurd hb (by rw [z]; exact f.mfresh hfr)
      · have q1 : Adv Ch s.gens.size s s₂ := Adv.trans (a₁.to (Nat.le_refl _)) a₂ a₁.gsz fun x hx => hx.elim Or.inl fun z => Or.inr (by rw [z]; exact hfr)
        exact Adv.trans q1 a₃ q1.gsz fun x hx => hx.elim Or.inl fun z => Or.inr (by rw [z]; exact hfr)
    · cases hσ
  · cases hσ

theorem top_retOwn {p q i : Nat} {xs : SL} (hw : nameOk nm i = true) : RunsT C A (.cons (.retOwn p q i) xs) nm sn := by
  intro M Ch env σ s f r hx Q E h
  rw [exL_cons, show exS C.K (.retOwn p q i) σ = (ownAt σ i).map fun vs => (.ret (.lst vs), σ) from rfl] at hx
  obtain ⟨⟨fl, σ₁⟩, h1, hx⟩ := Option.bind_eq_some_iff.mp hx
  obtain ⟨vs, hvs, h1⟩ := Option.map_eq_some_iff.mp h1
  cases h1
  cases hx
  have hvs := ownAt_some hvs
  obtain ⟨wi1, wi2⟩ := nameOk_ok hw
  obtain ⟨xv, hxv, rxv, hown⟩ := f.locV hvs
  obtain ⟨D, rfl, hCD⟩ := hown vs rfl
  obtain ⟨f', hp, hCh, hr'⟩ := f.freeze hvs hxv
  refine wpAny_execs_cons (wpAny_Return_some (hxv.eval f wi1 wi2 _ _ ?_))
  refine h _ s ⟨fun b => M.m b ∧ b ≠ D, M.τ⟩ (fun _ _ e => e) (fun t ht => f.tb t ht) (fun b hb => ?_) Adv.refl ⟨.ref D, rfl, hr', hp⟩
  by_cases z : b = D
  · exact Or.inr (z ▸ hCh)
  · exact Or.inl ⟨hb, z⟩

theorem top_forOwn (hr : RM A C.d) {p : Nat} {t : T} {q i : Nat} {b o xs : SL} (hw : nameOk nm i = true) (hb : wfSL nm sn b = true) (ho : wfSL nm sn o = true) (ih : RunsT C A xs nm sn) : RunsT C A (.cons (.forr p t (.own q i) b o) xs) nm sn := by
  intro M Ch env σ s f r hx Q E h
  rw [exL_cons, exS_forOwn] at hx
  obtain ⟨⟨fl, σ₁⟩, h1, hx⟩ := Option.bind_eq_some_iff.mp hx
  obtain ⟨vs, hvs, h1⟩ := Option.bind_eq_some_iff.mp h1
  have hvs := ownAt_some hvs
  obtain ⟨wi1, wi2⟩ := nameOk_ok hw
  obtain ⟨xv, hxv, rxv, hown⟩ := f.locV hvs
  obtain ⟨D, rfl, hCD⟩ := hown vs rfl
  obtain ⟨f', hp, hCh, hr'⟩ := f.freeze hvs hxv
  have hlen : (σ.set i (some (.lst vs))).length = σ.length := List.length_set ..
  refine wpAny_execs_cons (wpAny_For (hxv.eval f wi1 wi2 _ _ (iter_ev hr.handled (v := .lst vs) (vs := vs) (by simp [iterV, hp]) f'.al hr' _ _ fun itv W s₂ im => ?_)) (fun x => rfl))
  refine loop_ok hr (tg_ok (two := false) rfl) (exl_ok hr b nm sn hb) (exl_ok hr o nm sn ho) f' .refl f'.tb Adv.refl (im.gen f'.al) (by rw [hlen]; exact h1) _ _ fun ff s₃ M₃ g₃ a₃ f₃ hfl => ?_
  have hm : ∀ x, M.m x → M₃.m x ∨ Ch x := fun x hx => by
    by_cases z : x = D
    · exact Or.inr (z ▸ hCh)
    · exact Or.inl (by rw [g₃.m]; exact ⟨hx, z⟩)
  have a₃' : Adv Ch s.gens.size s s₃ := a₃.weaken (Nat.le_refl _) fun x hx => hx.1
  have fin : ∀ (fl' : Fl) (f' : Flow), r = (fl', σ₁) → FlR M₃ s₃.heap fl' f' → Q f' s₃ := fun fl' f' e hf => h f' s₃ M₃ g₃.τ f₃.tb hm a₃' (by rw [e]; exact hf)
  cases fl with
  | next =>
    rw [show ff = .next from hfl]
    refine ih M₃ _ env σ₁ s₃ f₃ r hx Q E fun f' s₄ M₄ τ₄ t₄ m₄ a₄ hf => h f' s₄ M₄ (fun t u e => τ₄ t u (g₃.τ t u e)) t₄ (fun x hx => ?_) (Adv.trans a₃' a₄ a₃'.gsz fun x hx => Or.inl hx.1) hf
    rcases hm x hx with z | z
    · exact (m₄ x z).elim Or.inl fun z => Or.inr z.1
    · exact Or.inr z
  | brk => rw [show ff = .brk from hfl]; cases hx; exact fin .brk _ rfl rfl
  | cont => rw [show ff = .cont from hfl]; cases hx; exact fin .cont _ rfl rfl
  | ret v => obtain ⟨y, rfl, ry⟩ := hfl; cases hx; exact fin (.ret v) _ rfl ⟨y, rfl, ry⟩

theorem top_ok (hr : RM A C.d) {nm : List Str} {sn : Nms} : ∀ b : SL, wfT nm sn b = true → RunsT C A b nm sn
  | .nil, _ => by
    intro M Ch env σ s f r hx Q E h
    cases hx
    exact wpAny_execs_nil (h .next s M (fun _ _ e => e) f.tb (fun b hb => Or.inl hb) Adv.refl rfl)
  | .cons x xs, hw => by
    have ss : ∀ {x : S}, (wfS nm sn x && wfT nm sn xs) = true → RunsT C A (.cons x xs) nm sn := fun h => top_simple hr (Bool.and_eq_true_iff.mp h).1 (top_ok hr xs (Bool.and_eq_true_iff.mp h).2)
    cases x with
    | asgOwn p q i x =>
      obtain ⟨h, h4⟩ := Bool.and_eq_true_iff.mp (show (wfX nm sn x && okNew x && !(swB nm sn q i x) && wfT nm sn xs) = true from hw)
      obtain ⟨h, h3⟩ := Bool.and_eq_true_iff.mp h
      obtain ⟨h1, h2⟩ := Bool.and_eq_true_iff.mp h
      exact top_asgOwn hr h1 h2 ((Bool.not_eq_true' _) ▸ h3) (top_ok hr xs h4)
    | retOwn p q i => exact top_retOwn hw
    | forr p t it b o =>
      cases it with
      | own q i =>
        obtain ⟨h, h4⟩ := Bool.and_eq_true_iff.mp (show (nameOk nm i && wfSL nm sn b && wfSL nm sn o && wfT nm sn xs) = true from hw)
        obtain ⟨h, h3⟩ := Bool.and_eq_true_iff.mp h
        obtain ⟨h1, h2⟩ := Bool.and_eq_true_iff.mp h
        exact top_forOwn hr h1 h2 h3 (top_ok hr xs h4)
      | _ => exact ss hw
    | _ => exact ss hw

end Mine

namespace Mine
open PySem PySem.W PySem.Calls PyProof.Rows

variable {prog : Program} {w : World} {C : Cx prog w} {A : Around} {M : Gh} {s : Shared}

theorem RM.deeper {d : Nat} {env : Env} (r : RM A (d + 1)) : RM (A.deeper env) d :=
  ⟨r.handled, by have := r.depth; show A.depth + 1 + d < _; lia, by have := r.units; show A.units + 3 + 8 * d + 80 < _; lia⟩

theorem bindL_other {kindOf : Str → Option NameKind} {id : Str} : ∀ (binds : List (Str × Value)) (m : Str → Option Value), (∀ x ∈ binds, x.1 ≠ id) → bindL kindOf binds m id = m id
  | [], m, _ => rfl
  | (n, v) :: r, m, h => by
    unfold bindL
    rw [bindL_other r _ fun x hx => h x (List.mem_cons_of_mem _ hx)]
    split
    · have : id ≠ n := fun z => h (n, v) (List.mem_cons_self ..) z.symm
      simp [this]
    · rfl
theorem bindC_other {kindOf : Str → Option NameKind} {id : Str} : ∀ (binds : List (Str × Value)) (m : Str → Option Value), (∀ x ∈ binds, x.1 ≠ id) → bindC kindOf binds m id = m id
  | [], m, _ => rfl
  | (n, v) :: r, m, h => by
    unfold bindC
    rw [bindC_other r _ fun x hx => h x (List.mem_cons_of_mem _ hx)]
    split
    · rfl
    · have : id ≠ n := fun z => h (n, v) (List.mem_cons_self ..) z.symm
      simp [this]
theorem bindL_at {kindOf : Str → Option NameKind} {id : Str} {v : Value} : ∀ (binds : List (Str × Value)) (m : Str → Option Value) (i : Nat), binds[i]? = some (id, v) → (∀ (i j : Nat) (a b : Str × Value), binds[i]? = some a → binds[j]? = some b → a.1 = b.1 → i = j) →
    kindOf id = some .local → bindL kindOf binds m id = some v
  | [], _, _, h, _, _ => by cases h
  | (n, u) :: r, m, 0, h, hd, hk => by
    cases h
    unfold bindL
    rw [bindL_other r, if_pos hk]
    · simp
    · intro x hx e
      obtain ⟨k, hk', hkk⟩ := List.mem_iff_getElem.mp hx
      have := hd 0 (k + 1) (id, v) x rfl (by simp [hkk, hk']) e.symm
      cases this
  | (n, u) :: r, m, i + 1, h, hd, hk => by
    unfold bindL
    exact bindL_at r _ i (by simpa using h) (fun i j a b ha hb e => by
      have := hd (i + 1) (j + 1) a b (by simpa using ha) (by simpa using hb) e
      lia) hk
theorem bindC_at {kindOf : Str → Option NameKind} {id : Str} {v : Value} : ∀ (binds : List (Str × Value)) (m : Str → Option Value) (i : Nat), binds[i]? = some (id, v) → (∀ (i j : Nat) (a b : Str × Value), binds[i]? = some a → binds[j]? = some b → a.1 = b.1 → i = j) →
    kindOf id ≠ some .local → bindC kindOf binds m id = some v
  | [], _, _, h, _, _ => by cases h
  | (n, u) :: r, m, 0, h, hd, hk => by
    cases h
    unfold bindC
    rw [bindC_other r, if_neg hk]
    · simp
    · intro x hx e
      obtain ⟨k, hk', hkk⟩ := List.mem_iff_getElem.mp hx
      have := hd 0 (k + 1) (id, v) x rfl (by simp [hkk, hk']) e.symm
      cases this
  | (n, u) :: r, m, i + 1, h, hd, hk => by
    unfold bindC
    exact bindC_at r _ i (by simpa using h) (fun i j a b ha hb e => by
      have := hd (i + 1) (j + 1) a b (by simpa using ha) (by simpa using hb) e
      lia) hk

/-- a function's own names -/
structure FnOK (nm : List Str) (sn : Nms) : Prop where
  nd : ∀ i j, i < nm.length → j < nm.length → nmAt nm i = nmAt nm j → i = j
  kd : ∀ i, i < nm.length → sn.lookup (nmAt nm i) = some .local ∨ (sn.lookup (nmAt nm i) = some .cell ∧ (nmAt nm i, NameKind.cell) ∈ sn)
noncomputable def okFn (nm : List Str) (sn : Nms) : Bool :=
  (List.range nm.length).all (fun i => (List.range nm.length).all fun j => i == j || nmAt nm i != nmAt nm j) &&
  (List.range nm.length).all fun i => sn.lookup (nmAt nm i) == some .local || sn.lookup (nmAt nm i) == some .cell
theorem okFn_ok {nm : List Str} {sn : Nms} (h : okFn nm sn = true) : FnOK nm sn := by
  unfold okFn at h
  simp only [Bool.and_eq_true, List.all_eq_true, Bool.or_eq_true, beq_iff_eq, bne_iff_ne, ne_eq, List.mem_range] at h
  exact ⟨fun i j hi hj e => (h.1 i hi j hj).elim id fun z => absurd e z, fun i hi => (h.2 i hi).elim Or.inl fun z => Or.inr ⟨z, mem_lookup z⟩⟩

theorem pw_lookup {cs : List (Str × Addr)} (hp : cs.Pairwise fun x y => x.2 ≠ y.2) {a b : Str} {c : Addr} (ha : cs.lookup a = some c) (hb : cs.lookup b = some c) : a = b := by
  have h1 := mem_lookup ha
  have h2 := mem_lookup hb
  induction cs with
  | nil => cases h1
  | cons x r ih =>
    obtain ⟨hx, hr⟩ := List.pairwise_cons.mp hp
    rcases List.mem_cons.mp h1 with e1 | h1'
    · rcases List.mem_cons.mp h2 with e2 | h2'
      · rw [← e1] at e2; cases e2; rfl
      · exact absurd (by rw [← e1]) (hx (b, c) h2')
    · rcases List.mem_cons.mp h2 with e2 | h2'
      · exact absurd (by rw [← e2]) (hx (a, c) h1')
      · have e1 : (a == x.1) = false := by
          cases z : a == x.1 with
          | false => rfl
          | true => rw [List.lookup_cons, z] at ha; cases ha; exact absurd rfl (hx (a, x.2) h1')
        have e2 : (b == x.1) = false := by
          cases z : b == x.1 with
          | false => rfl
          | true => rw [List.lookup_cons, z] at hb; cases hb; exact absurd rfl (hx (b, x.2) h2')
        rw [List.lookup_cons, e1] at ha
        rw [List.lookup_cons, e2] at hb
        exact ih hr ha hb h1' h2'

theorem arg_at {vs : List V} {k i : Nat} : Sto.at (vs.map some ++ List.replicate k none) i = vs[i]? := by
  unfold Sto.at
  rw [List.getElem?_append]
  split
  · rename_i h; rw [List.getElem?_map]; cases vs[i]? <;> rfl
  · rename_i h
    rw [List.length_map] at h
    have e : vs[i]? = none := List.getElem?_eq_none (by lia)
    rw [e, List.getElem?_replicate]
    split <;> rfl

/-- the frame of a call -/
theorem FS.start {nm : List Str} {sn : Nms} (hf : FnOK nm sn) {fd : FuncData} {a : Addr} (hn : fd.scope.names = sn) (hk : fd.scope.kind = .function) (hgl : fd.globals = C.gl) (hbl : fd.builtins = C.bl)
    {vs : List V} {xs : List Value} (hlen : vs.length ≤ nm.length) (g : C.G s.heap) (h1 : 1 ≤ s.toks) (hb : Tb M s.toks) (hal : Al M.m s.heap) (hp : plains vs = true) (r : VRs M s.heap vs xs) {s₁ : Shared}
    (x : InCallC s (callEnvC fd s.heap.objs.size a).locals (bindL (callEnvC fd s.heap.objs.size a).kindOf (nm.zip xs) fun _ => none) (callEnvC fd s.heap.objs.size a).cells (bindC (callEnvC fd s.heap.objs.size a).kindOf (nm.zip xs) fun _ => none) s₁) (ht : s.toks ≤ s₁.toks) :
    AdvE s s₁ ∧ ∃ Ch : Pr, (∀ b, Ch b → s.heap.get? b = none) ∧ FS C ⟨fun b => M.m b ∨ Ch b, M.τ⟩ Ch nm sn nm.length (callEnvC fd s.heap.objs.size a) (vs.map some ++ List.replicate (nm.length - vs.length) none) s₁ := by
  obtain ⟨⟨⟨h', tk, rfl⟩, hns, hkeep, hfr⟩, hcell, hpw, habove⟩ := x
  have adv : AdvE s { s with heap := h', toks := tk } := AdvE.of hkeep ht
  have hL : (callEnvC fd s.heap.objs.size a).locals = s.heap.objs.size := rfl
  have hxl := VRs.length r
  obtain ⟨oL, _, _, hoL, hdL, _⟩ := id hns
  generalize henv : callEnvC fd s.heap.objs.size a = env at *
  have hsc : env.scope = fd.scope := by rw [← henv]; rfl
  have hkind : ∀ id, env.kindOf id = sn.lookup id := fun id => by unfold Env.kindOf; rw [hsc, hn]
  have hcells : env.cells = cellsFrom (s.heap.objs.size + 1) fd.scope.names [] := by rw [← henv]; rfl
  refine ⟨adv, fun b => b = env.locals ∨ ∃ id, env.cells.lookup id = some b, ?_, ?_⟩
  · intro b hb
    rcases hb with rfl | ⟨id, hid⟩
    · exact fresh_none _ hfr
    · exact fresh_none _ (Nat.le_trans hfr (Nat.le_of_lt (habove id b (mem_lookup hid))))
  have hfresh : ∀ b, (b = env.locals ∨ ∃ id, env.cells.lookup id = some b) → s.heap.get? b = none := fun b hb => by
    rcases hb with rfl | ⟨id, hid⟩
    · exact fresh_none _ hfr
    · exact fresh_none _ (Nat.le_trans hfr (Nat.le_of_lt (habove id b (mem_lookup hid))))
  have hown : ∀ id, (id, NameKind.cell) ∈ sn → ∃ c, env.cells.lookup id = some c := fun id hid => by
    have := cellsFrom_own (id := id) (B₀ := 0) fd.scope.names { s.heap with objs := (s.heap.push { cls := .type "frame", data := .dict #[] }).objs } [] (Or.inl (by rw [hn]; exact hid)) (Nat.zero_le _)
    obtain ⟨c, hc, _⟩ := this
    have hz : (s.heap.push { cls := .type "frame", data := .dict #[] }).objs.size = s.heap.objs.size + 1 := Heap.size_push ..
    refine ⟨c, ?_⟩
    rw [hcells, ← hz]; exact hc
  have hzip : ∀ i id v, nm[i]? = some id → xs[i]? = some v → (nm.zip xs)[i]? = some (id, v) := fun i id v h1 h2 => by
    rw [List.getElem?_zip_eq_some]; exact ⟨h1, h2⟩
  have hnd : ∀ i j (p q : Str × Value), (nm.zip xs)[i]? = some p → (nm.zip xs)[j]? = some q → p.1 = q.1 → i = j := fun i j p q hp hq e => by
    obtain ⟨a1, _⟩ := List.getElem?_zip_eq_some.mp hp
    obtain ⟨b1, _⟩ := List.getElem?_zip_eq_some.mp hq
    have hi := (List.getElem?_eq_some_iff.mp a1).1
    have hj := (List.getElem?_eq_some_iff.mp b1).1
    refine hf.nd i j hi hj ?_
    unfold nmAt
    rw [List.getD_eq_getElem?_getD, List.getD_eq_getElem?_getD, a1, b1]
    exact e
  have hnm : ∀ i, i < nm.length → nm[i]? = some (nmAt nm i) := fun i hi => by
    unfold nmAt
    rw [List.getD_eq_getElem?_getD, List.getElem?_eq_getElem hi]; rfl
  refine ⟨by rw [hsc]; exact hk, by rw [hsc]; exact hn, ?_, ?_, adv.G g, Nat.le_trans h1 ht, fun t h => hb.mono ht t h, fun b hb => ?_, fun b hb => ⟨Or.inr hb, fun ho => ?_⟩, ?_, Or.inl rfl, ⟨_, hns, fun i hi => ?_⟩,
    fun i j c hi hj hli hlj hci hcj => ?_, fun i c hi hl hc => Or.inr ⟨_, hc⟩, fun i j us ws hi hj => ?_, Or.inr (Or.inl rfl), hf.nd, fun i hi => ⟨hi, (hf.kd i hi).elim Or.inl fun z => Or.inr z.1⟩, fun i v hv => ?_, fun i c hi hl hc => Or.inr (Or.inr ⟨_, hc⟩)⟩
  · rw [← henv]; exact hgl
  · rw [← henv]; exact hbl
  · rcases hb with hb | hb
    · obtain ⟨o, ho⟩ := hal b hb; exact ⟨o, hkeep b o ho⟩
    · rcases hb with rfl | ⟨id, hid⟩
      · exact ⟨oL, hoL⟩
      · obtain ⟨o, ho, _⟩ := hcell id b hid; exact ⟨o, ho⟩
  · obtain ⟨o, ho⟩ := C.live _ g b ho
    rw [hfresh b hb] at ho; cases ho
  · rw [List.length_append, List.length_map, List.length_replicate]; lia
  · have hv : ∀ v, Sto.at (vs.map some ++ List.replicate (nm.length - vs.length) none) i = some v → ∃ y, xs[i]? = some y ∧ VR (⟨fun b => M.m b ∨ (b = env.locals ∨ ∃ id, env.cells.lookup id = some b), M.τ⟩ : Gh) h' v y ∧ ∀ us, v ≠ .olst us := fun v e => by
      rw [arg_at] at e
      obtain ⟨y, hy, q⟩ := VRs.get r e
      have hpv := plains_get hp e
      refine ⟨y, hy, VR.keep hkeep (VR.less (M' := ⟨fun b => M.m b ∨ (b = env.locals ∨ ∃ id, env.cells.lookup id = some b), M.τ⟩) (fun b hb => hb.elim Or.inl fun z => Or.inr (hfresh b z)) (fun _ _ e => e) hpv q), fun us z => by rw [z] at hpv; cases hpv⟩
    rcases hf.kd i hi with hl | ⟨hl, hm⟩
    · refine ⟨_, Or.inl ⟨hl, rfl⟩, fun v e => ?_⟩
      obtain ⟨y, hy, q, hno⟩ := hv v e
      exact ⟨y, bindL_at _ _ i (hzip i _ _ (hnm i hi) hy) hnd (by rw [hkind]; exact hl), q, fun us z => absurd z (hno us)⟩
    · obtain ⟨c, hc⟩ := hown _ hm
      refine ⟨_, Or.inr ⟨Or.inl hl, c, hc, hcell _ c hc⟩, fun v e => ?_⟩
      obtain ⟨y, hy, q, hno⟩ := hv v e
      exact ⟨y, bindC_at _ _ i (hzip i _ _ (hnm i hi) hy) hnd (by rw [hkind, hl]; decide), q, fun us z => absurd z (hno us)⟩
  · exact hf.nd i j hi hj (pw_lookup hpw hci hcj)
  · rw [arg_at] at hi
    have := plains_get hp hi; cases this
  · rw [arg_at] at hv
    exact Or.inl (plains_get hp hv)

end Mine

namespace Mine
open PySem PySem.W PySem.Calls PyProof.Rows

variable {prog : Program} {w : World}

theorem fun_ok (C : Cx prog w) {a : Addr} {fd : FuncData} {nm : List Str} {sn : Nms} {b : SL} {vs : List V} {v : V} {σ' : Sto} (hf : okFn nm sn = true) (hn : fd.scope.names = sn) (hk : fd.scope.kind = .function) (hgl : fd.globals = C.gl) (hbl : fd.builtins = C.bl)
    (hco : fd.scope.isCoroutine = false) (hgen : fd.scope.isGenerator = false) (hclo : fd.closure = []) (hbody : fd.body = .stmts (deSL nm b)) (hwf : wfT nm sn b = true)
    (hbind : ∀ xs : List Value, xs.length = vs.length → bindArgs fd ⟨xs, []⟩ = pure (nm.zip xs))
    (hG : ∀ h, C.G h → ∃ o, h.get? a = some o ∧ o.data = .func fd ∧ h.CodeRec fd.code fd.qualname ∧ h.NoLimit)
    (hlen : vs.length ≤ nm.length) (hrun : exL C.K b (vs.map some ++ List.replicate (nm.length - vs.length) none) = some (.ret v, σ')) :
    ∀ A (s : Shared) (M : Gh) xs, RM A (C.d + 1) → plains vs = true → C.G s.heap → 1 ≤ s.toks → Tb M s.toks → Al M.m s.heap → VRs M s.heap vs xs → EvAt prog w A M (call (.ref a) xs) v s := by
  intro A s M xs hr hp g h1 hb hal r Q E h
  obtain ⟨o, ho, hd, hcd, hlim⟩ := hG _ g
  have hfn := okFn_ok hf
  have hxl := VRs.length r
  refine wpAny_call (codeAny_call_function hr.d ho hd hco hgen hbody hcd ?_)
  rw [hbind xs hxl, hclo]
  refine wpAny_pure (wpAny_with_toks (Nat.le_refl s.toks) (wpAny_newFunctionEnv_cells hk ?_ fun env he s₁ x ht => ?_))
  · intro x hx
    obtain ⟨i, hi, hix⟩ := List.mem_iff_getElem.mp hx
    have hin : i < nm.length := by rw [List.length_zip] at hi; lia
    have e : x.1 = nmAt nm i := by
      rw [← hix, List.getElem_zip]
      unfold nmAt
      rw [List.getD_eq_getElem?_getD, List.getElem?_eq_getElem hin]; rfl
    rw [e, hn]
    rcases hfn.kd i hin with hl | ⟨hl, hm⟩
    · exact Or.inl hl
    · refine Or.inr ⟨hl, ?_⟩
      obtain ⟨c, hc, _⟩ := cellsFrom_own (id := nmAt nm i) (B₀ := 0) sn { s.heap with objs := (s.heap.push { cls := .type "frame", data := .dict #[] }).objs } [] (Or.inl hm) (Nat.zero_le _)
      have hz : (s.heap.push { cls := .type "frame", data := .dict #[] }).objs.size = s.heap.objs.size + 1 := Heap.size_push ..
      have hc' : (cellsFrom (s.heap.objs.size + 1) sn []).lookup (nmAt nm i) = some c := by rw [← hz]; exact hc
      rw [hc']; rfl
  subst he
  refine ⟨hlim.keeps x.toInCall.keep, codeAny_func ?_⟩
  obtain ⟨adv, Ch, hfr, f⟩ := FS.start (C := C) hfn hn hk hgl hbl (a := a) hlen g h1 hb hal hp r x ht
  refine top_ok (C := C) hr.deeper b hwf _ Ch _ _ s₁ f _ hrun _ _ fun ff s' M' τ' t' m' a' hfl => ?_
  obtain ⟨y, rfl, ry, py⟩ := hfl
  have hM : ∀ b, M.m b → M'.m b := fun b hb => by
    rcases m' b (Or.inl hb) with z | z
    · exact z
    · obtain ⟨o, ho⟩ := hal b hb
      rw [hfr b z] at ho; cases ho
  exact h y s' ⟨M.m, M'.τ⟩ ⟨rfl, τ'⟩ (fun t ht => t' t ht) (Adv.trans adv a' adv.gsz fun x hx => Or.inr (hfr x hx)) (VR.less (M' := ⟨M.m, M'.τ⟩) (fun b hb => Or.inl (hM b hb)) (fun _ _ e => e) py ry)

end Mine

namespace Mine
open PySem PySem.W PySem.Calls PyProof.Rows

/-! running a generator's body to its next end -/
/-- in a frame whose code is c, the tree t comes to an end of which P holds -/
noncomputable def Goes (M : Model) (A : Around) (c : Code) (t : Sem Fin) (fs : List Frame) (s : Shared) (P : End → Shared → Prop) : Prop :=
  ∀ (Γ : Ctx) (p : Pos), Γ.code = c ∧ Γ.Woken A → ∃ e s', PySem.Runs M Γ p t fs s e s' ∧ e.quiet = true ∧ P e s'

section
variable {prog : Program} {w : World} {A : Around} {c : Code} {fs : List Frame} {s : Shared} {P P' : End → Shared → Prop}
theorem Goes.imp {M : Model} {t : Sem Fin} (x : Goes M A c t fs s P) (h : ∀ e s', P e s' → P' e s') : Goes M A c t fs s P' := fun Γ p hΓ =>
  (x Γ p hΓ).imp fun e y => y.imp fun s' z => ⟨z.1, z.2.1, h e s' z.2.2⟩
/-- a call: its code runs above -/
theorem go_call {c' : Code} {hd : Option Value} {g : Bool} {l : List Value} {k : Result → Sem Fin} (x : ∀ p, Goes (model prog w) A c' (denote table c') (.ret k hd g l c p [] :: fs) s P) : Goes (model prog w) A c (.call c' hd g l k) fs s P := fun Γ p hΓ => by
  have y := x p (Γ.goto c') p ⟨rfl, hΓ.2.goto c'⟩
  rw [← hΓ.1] at y
  exact y.imp fun e y => y.imp fun s' z => ⟨runs_call_seg z.1, z.2⟩
/-- the same frame goes on with another code -/
theorem go_again {c' : Code} (hq : c'.quiet = true) (x : Goes (model prog w) A c' (denote table c') fs s P) : Goes (model prog w) A c (.pure (.again c')) fs s P := fun Γ p hΓ =>
  (x (Γ.goto c') p ⟨rfl, hΓ.2.goto c'⟩).imp fun e y => y.imp fun s' z => ⟨PySem.Runs.head (c₁ := c') (fun _ _ u => .again hq u) z.1, z.2⟩
/-- back into the frame below -/
theorem go_back {r : Result} {k : Result → Sem Fin} {hd : Option Value} {g : Bool} {l : List Value} {c₁ : Code} {p₁ : Pos} {kp : List Value} (x : Goes (model prog w) A c₁ (k r) fs s P) : Goes (model prog w) A c (leafOf r) (.ret k hd g l c₁ p₁ kp :: fs) s P := fun Γ p hΓ =>
  (x (Γ.goto c₁) p₁ ⟨rfl, hΓ.2.goto c₁⟩).imp fun e y => y.imp fun s' z => ⟨PySem.Runs.pop r z.1, z.2⟩
/-- the last frame ends -/
theorem go_last {r : Result} (x : P (.ret r) s) : Goes (model prog w) A c (leafOf r) [] s P := fun Γ p _ => ⟨.ret r, s, PySem.Runs.leaf r, rfl, x⟩
/-- a generator is woken -/
theorem go_wake {α : Type} {A : Around} {Q : α → Shared → Prop} {E : Value → Shared → Prop} {g : Nat} {gs : GenState} {r : Resume} {l : List Value} {k : GenResult → Sem α} {c₀ : Code} {t₀ : Sem Fin} {fs₀ : List Frame} (hg : s.gens[g]? = some gs)
    (hgs : (gs = .fresh c₀ ∧ r = .send .none ∧ t₀ = denote table c₀ ∧ fs₀ = []) ∨ (∃ k₀ l₀ p₀ cl, gs = .suspended k₀ l₀ c₀ p₀ fs₀ cl ∧ t₀ = k₀ r))
    (x : Goes (model prog w) A c₀ t₀ fs₀ (s.setGen g .running) fun e s₁ => wpAny (model prog w) A (k e.result) Q E (s₁.setGen g e.genState)) : wpAny (model prog w) A (.resume g r l k) Q E s := fun Γ p hΓ => by
  rw [Sem.wp_resume]
  have y := fun q => x (Γ.wake c₀ p) q ⟨rfl, hΓ.wake c₀ p⟩
  unfold Wakes
  rw [hg]
  rcases hgs with ⟨rfl, rfl, rfl, rfl⟩ | ⟨k₀, l₀, p₀, cl, rfl, rfl⟩
  · obtain ⟨e, s', h1, h2, h3⟩ := y p
    exact ⟨_, _, ⟨e, s', h1, h2, rfl, rfl⟩, h3 Γ p hΓ⟩
  · obtain ⟨e, s', h1, h2, h3⟩ := y p₀
    exact ⟨_, _, ⟨e, s', h1, h2, rfl, rfl⟩, h3 Γ p hΓ⟩
end

section
variable {prog : Program} {w : World} {A : Around} {c : Code} {fs : List Frame} {s : Shared} {P : End → Shared → Prop} {env : Env}
  {K : Flow → Sem Fin} {H : Value → Sem Fin} {gd : Bool → Bool} {lv : List Value → List Value}

theorem sx_wrap {α : Type} {m : Sem α} {K : α → Sem Fin} {H : Value → Sem Fin} {gd lv}
    (h : wpAny (model prog w) (A.over c fs) m (fun a s' => Goes (model prog w) A c (K a) fs s' P) (fun x s' => Goes (model prog w) A c (H x) fs s' P) s) :
    Goes (model prog w) A c (m.wrap K H gd lv) fs s P := by
  rintro Γ p ⟨rfl, hΓ⟩
  obtain ⟨e, s', hr, hq⟩ := runs_wrap_of_wp (Φ := fun e s' => e.quiet = true ∧ P e s') K H gd lv m (h (Γ.over fs) p (hΓ.over fs)) (fun a p' s' h' => h' Γ p' ⟨rfl, hΓ⟩) (fun x p' s' h' => h' Γ p' ⟨rfl, hΓ⟩)
  exact ⟨e, s', hr, hq⟩
theorem sx_bind_wrap {α β : Type} {m : Sem α} {K : α → Sem β} {K' : β → Sem Fin} {H' : Value → Sem Fin} {gd lv}
    (h : wpAny (model prog w) (A.over c fs) m (fun a s' => Goes (model prog w) A c ((K a).wrap K' H' gd lv) fs s' P) (fun x s' => Goes (model prog w) A c (H' x) fs s' P) s) :
    Goes (model prog w) A c ((m >>= K).wrap K' H' gd lv) fs s P := by
  rw [Sem.bind_eq_wrap', Sem.wrap_wrap]; exact sx_wrap h
theorem sx_at {p' : Pos} {k : Unit → Sem Fin} (h : Goes (model prog w) A c (k ()) fs s P) : Goes (model prog w) A c (.at p' k) fs s P :=
  sx_wrap (m := standAt p') (K := k) (H := .raise) (gd := id) (lv := id) (wpAny_standAt h)
theorem sx_point {l : List Value} {k : Unit → Sem Fin} (h : Goes (model prog w) A c (k ()) fs s P) : Goes (model prog w) A c (.point l k) fs s P :=
  sx_wrap (m := point) (K := k) (H := .raise) (gd := id) (lv := fun _ => l) (wpAny_point h)

theorem sx_execs_cons {st : Stmt} {rest : List Stmt}
    (h : Goes (model prog w) A c ((exec st env).wrap (fun f => match f with | .next => (execs rest env).wrap K H gd lv | f => K f) H gd lv) fs s P) :
    Goes (model prog w) A c ((execs (st :: rest) env).wrap K H gd lv) fs s P := by rw [execs_cons_wrap]; exact h
theorem sx_execs_nil (h : Goes (model prog w) A c (K .next) fs s P) : Goes (model prog w) A c ((execs [] env).wrap K H gd lv) fs s P := h

theorem sx_If {test : Expr} {body orelse : List Stmt} {pos : Pos}
    (h : wpAny (model prog w) (A.over c fs) (isTrue test env (eval test env)) (fun b s' => Goes (model prog w) A c ((if b then execs body env else execs orelse env).wrap K H gd lv) fs s' P) (fun x s' => Goes (model prog w) A c (H x) fs s' P) s) :
    Goes (model prog w) A c ((exec (.If test body orelse pos) env).wrap K H gd lv) fs s P := by
  rw [arm_exec_If]
  exact sx_bind_wrap (wpAny_standAt (sx_bind_wrap h))

theorem sx_yield {e : Expr} {ypos pos : Pos} (hfs : splitAtGen fs = none) (hgd : gd false = false) (hfg : fs.any Frame.guarded = false)
    (h : wpAny (model prog w) (A.over c fs) (eval e env) (fun v s' => ∀ (k : Resume → Sem Fin) (l : List Value) (p : Pos), (∀ s'' P', Goes (model prog w) A c (K .next) fs s'' P' → Goes (model prog w) A c (k (.send .none)) fs s'' P') → P (.susp v false l k c p fs) s')
      (fun x s' => Goes (model prog w) A c (H x) fs s' P) s) (hco : env.scope.isCoroutine = false) (hi : interactive env = false) :
    Goes (model prog w) A c ((exec (.Expr (.Yield (some e) ypos) pos) env).wrap K H gd lv) fs s P := by
  rw [exec_Expr env _ pos hi rfl]
  show Goes (model prog w) A c (.at pos fun _ => ((eval e env >>= fun v => (standAt ypos >>= fun _ => yieldOut env v)) >>= fun x =>
    dropValue (.Yield (some e) ypos) pos x).wrap K H gd lv) fs s P
  have hy : ∀ v, yieldOut env v = yieldValue v := fun v => by simp only [yieldOut, hco, Bool.false_eq_true, if_false]
  simp only [hy]
  refine sx_at ?_
  rw [Sem.bind_eq_wrap', Sem.bind_eq_wrap', Sem.wrap_wrap, Sem.wrap_wrap]
  refine sx_wrap (wpAny_mono h (fun v s' h' => ?_) fun _ _ x => x)
  refine sx_at ?_
  rintro Γ p ⟨rfl, _⟩
  refine ⟨_, s', Runs.yield' fs hfs, by simp [End.quiet, hgd, hfg], ?_⟩
  simp only [id, hgd]
  refine h' _ _ p fun s'' P' hx => ?_
  exact hx

/-- what stands behind a loop in a block -/
noncomputable def backK (env : Env) (K : Flow → Sem Fin) (H : Value → Sem Fin) (gd : Bool → Bool) (lv : List Value → List Value) (r : Result) : Sem Fin :=
  ((match r with | .ok f => (.pure f : Sem Flow) | .error e => .raise e).onRaise fun (x : Value) => do
    if (← field x 1) == Value.none then unsupported "frame.own-activation:exception-without-traceback"
    setFlight x env.frame).wrap K H gd lv
theorem sx_For {target iter : Expr} {body orelse : List Stmt} {pos : Pos}
    (h : wpAny (model prog w) (A.over c fs) (eval iter env) (fun x s₁ => wpAny (model prog w) (A.over c fs) (pyIter x) (fun it s₂ =>
      ∀ p, Goes (model prog w) A (.forLoop target it body orelse env) (denote table (.forLoop target it body orelse env)) (.ret (backK env K H gd lv) none (gd false) (lv []) c p [] :: fs) s₂ P)
      (fun x s' => Goes (model prog w) A c (H x) fs s' P) s₁) (fun x s' => Goes (model prog w) A c (H x) fs s' P) s)
    (hs : ∀ x, foldedSetIterable iter env x = pure x) :
    Goes (model prog w) A c ((exec (.For target iter body orelse pos) env).wrap K H gd lv) fs s P := by
  rw [exec_For]
  refine sx_bind_wrap (wpAny_standAt (sx_bind_wrap (wpAny_mono h (fun x s₁ h₁ => ?_) fun _ _ e => e)))
  refine sx_bind_wrap (wpAny_of_eq (hs x) (sx_bind_wrap (wpAny_standAt (sx_bind_wrap (wpAny_holding (wpAny_mono h₁ (fun it s₂ h₂ => ?_) fun _ _ e => e))))))
  exact go_call h₂

theorem sx_forLoop {target : Expr} {it : Value} {body orelse : List Stmt}
    (h : wpAny (model prog w) (A.over (.forLoop target it body orelse env) fs) (pyNext it) (fun r s₁ => match r with
        | none => Goes (model prog w) A (.block orelse env) (denote table (.block orelse env)) fs s₁ P
        | some v => wpAny (model prog w) (A.over (.forLoop target it body orelse env) fs) (letOwnedTupleGo target it v) (fun _ s₁' => wpAny (model prog w) (A.over (.forLoop target it body orelse env) fs) (PySem.assign target env v) (fun _ s₂ =>
            ∀ K', (K' = fun f => match f with
              | .next | .cont => .pure (.again (.forLoop target it body orelse env))
              | .brk => .pure (.done .next)
              | .ret v => .pure (.done (.ret v))) → ∀ H', Goes (model prog w) A (.forLoop target it body orelse env) ((execs body env).wrap K' H' id id) fs s₂ P)
            (fun _ _ => False) s₁') (fun _ _ => False) s₁) (fun _ _ => False) s) :
    Goes (model prog w) A (.forLoop target it body orelse env) (denote table (.forLoop target it body orelse env)) fs s P := by
  show Goes (model prog w) A _ ((forTurn target it body orelse env).onRaise (fun x => do noteFrame x env; theTreesLotGoes x)) fs s P
  rw [Sem.onRaise_eq_wrap]
  unfold forTurn
  refine sx_bind_wrap (wpAny_standAt (sx_bind_wrap (wpAny_onRaise (wpAny_mono h (fun r s₁ h₁ => ?_) fun _ _ h' => h'.elim))))
  cases r with
  | none => exact go_again rfl h₁
  | some v =>
    refine sx_bind_wrap (wpAny_mono h₁ (fun _ s₁' h₁' => ?_) fun _ _ h' => h'.elim)
    refine sx_bind_wrap (wpAny_mono h₁' (fun _ s₂ h₂ => ?_) fun _ _ h' => h'.elim)
    rw [Sem.bind_eq_wrap', Sem.wrap_wrap]
    rw [Sem.wrap_congr (execs body env) _ _ (K' := fun f => match f with
            | .next | .cont => .pure (.again (.forLoop target it body orelse env))
            | .brk => .pure (.done .next)
            | .ret v => .pure (.done (.ret v))) (H' := fun e => Sem.wrap Sem.pure (fun e => Sem.bind (do noteFrame e env; theTreesLotGoes e) fun _ => Sem.raise e) id id (Sem.raise e))
        (fun f => by cases f <;> rfl) (fun e => rfl)]
    exact h₂ _ rfl _

theorem sx_block {body : List Stmt} (h : ∀ H', Goes (model prog w) A (.block body env) ((execs body env).wrap (fun f => .pure (.done f)) H' id id) fs s P) :
    Goes (model prog w) A (.block body env) (denote table (.block body env)) fs s P := by
  show Goes (model prog w) A _ (((execs body env).onRaise (fun x => do noteFrame x env; theTreesLotGoes x)) >>= fun f => pure (Fin.done f)) fs s P
  rw [Sem.onRaise_eq_wrap, Sem.bind_eq_wrap', Sem.wrap_wrap]
  exact h _

theorem sx_func {body : List Stmt}
    (h : ∀ H', Goes (model prog w) A (.func body env) ((execs body env).wrap (fun f => .pure (.done (.ret (match f with | .ret v => v | _ => .none)))) H' id id) fs s P) :
    Goes (model prog w) A (.func body env) (denote table (.func body env)) fs s P := by
  show Goes (model prog w) A _ (.point [] fun _ => ((execs body env).onRaise (leaving env)) >>= _) fs s P
  refine sx_point ?_
  rw [Sem.onRaise_eq_wrap, Sem.bind_eq_wrap', Sem.wrap_wrap]
  rw [Sem.wrap_congr (execs body env) _ _ (K' := fun f => .pure (.done (.ret (match f with | .ret v => v | _ => .none))))
    (H' := fun e => (leaving env e).wrap (fun _ => .raise e) .raise id id) (fun f => by cases f <;> rfl)
    (fun e => by rw [Sem.bind_eq_wrap, Sem.wrap_wrap]; rfl)]
  exact h _
end

end Mine

namespace Mine
open PySem PySem.W PySem.Calls PyProof.Rows

noncomputable def nmG : List Str := ["addr", "pos", "escape", "ch"]
noncomputable def yX (p : Nat) (x : X) : Stmt := .Expr (.Yield (some (deX nmG x)) (ps p)) (ps p)
noncomputable def g1 : S := .asg 107004107011 107004107007 1 (.cint 107010107011 0)
noncomputable def g2 : S := .asg 108004108018 108004108010 2 (.cbool 108013108018 false)
noncomputable def gT : T := .t2 109008109015 109008109011 1 109013109015 3
noncomputable def gI : X := .var 109029109033 0
noncomputable def gE : X := .var 110011110017 2
noncomputable def y1 : X := .tup 111018111034 (.cons (.var 111019111022 1) (.cons (.bin 111024111033 .Add (.cstr 111024111028 "\\") (.var 111031111033 3)) .nil))
noncomputable def gF : S := .asg 112012112026 112012112018 2 (.cbool 112021112026 false)
noncomputable def gC : X := .cmp 113013113023 .Eq (.var 113013113015 3) (.cstr 113019113023 "\\")
noncomputable def gS : S := .asg 114012114025 114012114018 2 (.cbool 114021114025 true)
noncomputable def y2 : X := .tup 116018116027 (.cons (.var 116019116022 1) (.cons (.var 116024116026 3) .nil))
noncomputable def gE2 : X := .var 117007117013 2
noncomputable def y3 : X := .tup 118014118025 (.cons (.var 118015118018 1) (.cons (.cstr 118020118024 "\\") .nil))
noncomputable def gLoop : List Stmt := [.If (deX nmG gE) [yX 111012111034 y1, deS nmG gF] [.If (deX nmG gC) [deS nmG gS] [yX 116012116027 y2] (ps 113008116027)] (ps 110008116027)]
noncomputable def gEnd : Stmt := .If (deX nmG gE2) [yX 118008118025 y3] [] (ps 117004118025)
noncomputable def gBody : List Stmt := [deS nmG g1, deS nmG g2, .For (deT nmG gT) (deI nmG (.enm 109019109034 109019109028 gI)) gLoop [] (ps 109004116027), gEnd]
theorem gBody_eq : gBody = bodyOf "_iter_escaped_chars" := rfl
noncomputable def snG : Nms := [("addr", .local), ("pos", .local), ("escape", .local), ("ch", .local), ("enumerate", .globalImplicit)]

/-- what the generator yields -/
noncomputable def escV : Int → Bool → List Nat → List V
  | p, esc, [] => if esc then [.tup [.int (p - 1), .str false ⟨#[92]⟩]] else []
  | p, true, c :: cs => .tup [.int p, .str false ⟨#[92, c]⟩] :: escV (p + 1) false cs
  | p, false, c :: cs => if c == 92 then escV (p + 1) true cs else .tup [.int p, .str false ⟨#[c]⟩] :: escV (p + 1) false cs

variable {prog : Program} {w : World}

theorem rm_by {A A' : Around} {d n : Nat} (h : A'.handled = A.handled) (h1 : A'.depth = A.depth + 1 ∧ A'.units = A.units + n) (h2 : n ≤ 8) (r : RM A (d + 1)) : RM A' d :=
  ⟨h.trans r.handled, by have := r.depth; lia, by have := r.units; lia⟩
theorem rm_func {A : Around} {d : Nat} {b : List Stmt} {env : Env} (r : RM A (d + 1)) : RM (A.over (.func b env) []) d := by
  exact rm_by (A := A) (n := 3) rfl ⟨rfl, rfl⟩ (by decide) r
theorem rm_loop {A : Around} {d : Nat} {t : Expr} {it : Value} {b o bb : List Stmt} {env env' : Env} {k : Result → Sem Fin} {g : Bool} {l : List Value} {p : Pos} {kp : List Value} (r : RM A (d + 1)) : RM (A.over (.forLoop t it b o env) [.ret k none g l (.func bb env') p kp]) d := by
  exact rm_by (A := A) (n := 3) rfl ⟨rfl, rfl⟩ (by decide) r
/-- one run of the generator, and those to come -/
noncomputable def GP (prog : Program) (w : World) (A : Around) (G : Heap → Prop) (M : Gh) : List V → Pr → Shared → End → Shared → Prop
  | [], W, s₀, e, s₁ => e = .ret (.ok (.ret .none)) ∧ AdvW W s₀.gens.size s₀ s₁
  | v :: rem, W, s₀, e, s₁ => ∃ (W' : Pr) (x : Value) (c : Code) (k : Resume → Sem Fin) (l : List Value) (p : Pos) (fs : List Frame), e = .susp x false l k c p fs ∧ fs.any Frame.guarded = false ∧
      (∀ b, W' b → W b ∨ s₀.heap.get? b = none) ∧ Al W' s₁.heap ∧ AdvW W s₀.gens.size s₀ s₁ ∧ VR ⟨fun b => M.m b ∨ W' b, M.τ⟩ s₁.heap v x ∧
      ∀ s'' : Shared, (∀ b o, (W' b ∨ ¬ M.m b) → s₁.heap.get? b = some o → s''.heap.get? b = some o) → Al M.m s''.heap → Al W' s''.heap → G s''.heap → 1 ≤ s''.toks → Goes (model prog w) A c (k (.send .none)) fs s'' (GP prog w A G M rem W' s'')

theorem yv_ok {M M' : Gh} {h : Heap} {i : Int} {n : Bool} {z : Str} {x : Value} (hm : ∀ b, M'.m b → M.m b ∨ h.get? b = none) (r : VR M h (.tup [.int i, .str n z]) x) : VR M' h (.tup [.int i, .str false z]) x := by
  obtain ⟨a, its, rfl, hma, ⟨k, hp⟩, y, ys, e, ⟨t, rfl⟩, y', ys', e', ⟨t', rfl, _⟩, e''⟩ := r
  have e'' : ys' = [] := e''
  subst e'' e'
  refine ⟨a, its, rfl, fun z => (hm a z).elim hma fun q => (by rw [hp] at q; cases q), ⟨k, hp⟩, _, _, e, ⟨t, rfl⟩, _, _, rfl, ⟨t', rfl, fun z => nomatch z⟩, rfl⟩

section
variable {C : Cx prog w} {A : Around} {M : Gh} {env : Env} {Lg : Addr}

theorem AdvW.trans {W X : Pr} {n n' : Nat} {s s' s'' : Shared} (a : AdvW W n s s') (b : AdvW X n' s' s'') (hn : n ≤ n') (hx : ∀ x, X x → W x ∨ s.heap.get? x = none) : AdvW W n s s'' :=
  ⟨fun x o hw e => b.keep x o (fun q => (hx x q).elim hw fun z => by rw [z] at e; cases e) (a.keep x o hw e), fun i hi => (b.gens i (Nat.lt_of_lt_of_le hi hn)).trans (a.gens i hi), Nat.le_trans a.gsz b.gsz, fun z => b.bare (a.bare z), b.os.trans a.os, Nat.le_trans a.toks b.toks⟩

/-- the generator's frame within a run that began at s₀ -/
structure GF (C : Cx prog w) (M : Gh) (env : Env) (W : Pr) (s₀ : Shared) (W₀ : Pr) (σ : Sto) (s : Shared) : Prop where
  f : ∃ τ, FS C ⟨fun b => M.m b ∨ W b, τ⟩ (fun b => b = env.locals) nmG snG 4 env σ s
  adv : AdvW W₀ s₀.gens.size s₀ s
  wn : ∀ b, W b → W₀ b ∨ s₀.heap.get? b = none
  loc : W₀ env.locals
  locW : W env.locals

theorem GF.step {W W₀ : Pr} {s₀ s s' : Shared} {σ σ' : Sto} {τ : Tok → Option Str} (g : GF C M env W s₀ W₀ σ s) (a : Adv (fun b => b = env.locals) s.gens.size s s') (f' : FS C ⟨fun b => M.m b ∨ W b, τ⟩ (fun b => b = env.locals) nmG snG 4 env σ' s') : GF C M env W s₀ W₀ σ' s' :=
  ⟨⟨τ, f'⟩, g.adv.trans a.toW g.adv.gsz fun x hx => Or.inl (by rw [hx]; exact g.loc), g.wn, g.loc, g.locW⟩

/-- a plain statement of the generator -/
theorem gf_stmt {A' : Around} (hr : RM A' C.d) {st : S} (hw : wfS nmG snG st = true) {W W₀ : Pr} {s₀ s : Shared} {σ σ' : Sto} (hx : exS C.K st σ = some (.next, σ')) (g : GF C M env W s₀ W₀ σ s) (Q : Flow → Shared → Prop) (E : Value → Shared → Prop)
    (h : ∀ s', Adv (fun b => b = env.locals) s.gens.size s s' → GF C M env W s₀ W₀ σ' s' → Q .next s') : wpAny (model prog w) A' (exec (deS nmG st) env) Q E s := by
  obtain ⟨τ, f⟩ := g.f
  refine ex_ok hr st nmG snG hw _ _ env σ s f _ hx Q E fun ff s' M' gl a f' hf => ?_
  rw [show ff = .next from hf]
  exact h s' a (g.step a (f'.iff (M' := ⟨fun b => M.m b ∨ W b, M'.τ⟩) gl.m rfl))

/-- values that stand for themselves -/
noncomputable def selfV : V → Bool
  | .none | .bool _ | .int _ | .str false _ => true
  | _ => false
theorem selfV_ok {M M' : Gh} {h h' : Heap} {v : V} {x : Value} (hv : selfV v = true) (r : VR M h v x) : VR M' h' v x := by
  cases v <;> first | (exact r) | (simp [selfV] at hv; done) | skip
  rename_i n s
  cases n with
  | true => simp [selfV] at hv
  | false => obtain ⟨t, e, _⟩ := r; exact ⟨t, e, fun z => nomatch z⟩
theorem FS.wake {M₂ : Gh} {Ch : Pr} {n : Nat} {σ : Sto} {s₁ s : Shared} (f : FS C M₂ Ch nmG snG n env σ s₁) (hσ : ∀ i v, σ.at i = some v → selfV v = true) (hL : ∀ o, s₁.heap.get? env.locals = some o → s.heap.get? env.locals = some o)
    (hG : C.G s.heap) (h1 : 1 ≤ s.toks) (hal : Al M₂.m s.heap) : FS C ⟨M₂.m, fun _ => none⟩ Ch nmG snG n env σ s := by
  obtain ⟨m, hn, hv⟩ := f.vals
  have hloc : ∀ i, i < nmG.length → snG.lookup (nmAt nmG i) = some .local := by decide
  refine ⟨f.kind, f.names, f.gl, f.bl, hG, h1, fun t ht => absurd rfl ht, hal, f.sub, f.len, f.loc, ⟨m, hn.at hL, fun i hi => ?_⟩, f.inj, f.wr, f.one, f.ml, f.nd, f.wk, f.pl, f.cm⟩
  obtain ⟨x, hl, hy⟩ := hv i hi
  rcases hl with hl | ⟨hk, _⟩
  · refine ⟨x, Or.inl hl, fun v e => ?_⟩
    obtain ⟨y, hx, r, o⟩ := hy v e
    exact ⟨y, hx, selfV_ok (hσ i v e) r, o⟩
  · rw [hloc i hi] at hk; rcases hk with hk | hk <;> cases hk

/-- yielding -/
theorem gf_yield {A' : Around} {c : Code} {fs : List Frame} {K : Flow → Sem Fin} {H : Value → Sem Fin} {gd lv} (hr : RM (A'.over c fs) C.d) (hfs : splitAtGen fs = none) (hgd : gd false = false) (hfg : fs.any Frame.guarded = false)
    {x : X} {p : Nat} (hw : wfX nmG snG x = true) {W W₀ : Pr} {s₀ s : Shared} {σ : Sto} {i : Int} {n : Bool} {z : Str} (hx : ev C.K x false σ = some (.tup [.int i, .str n z])) (g : GF C M env W s₀ W₀ σ s) (hσ : ∀ i v, σ.at i = some v → selfV v = true) {rem : List V} (hco : env.scope.isCoroutine = false)
    (h : ∀ s'', (∀ b o, (W b ∨ ¬ M.m b) → s.heap.get? b = some o → s''.heap.get? b = some o) → GF C M env W s'' W σ s'' → Goes (model prog w) A' c (K .next) fs s'' (GP prog w A' C.G M rem W s'')) :
    Goes (model prog w) A' c ((exec (yX p x) env).wrap K H gd lv) fs s (GP prog w A' C.G M (.tup [.int i, .str false z] :: rem) W₀ s₀) := by
  obtain ⟨τ, f⟩ := g.f
  refine sx_yield hfs hgd hfg ((ev_ok hr x nmG snG _ _ _ env σ s hw f).1 _ hx _ _ fun xv s₁ M₁ gl t₁ a₁ r₁ => ?_) hco (by unfold interactive; rw [f.kind]; rfl)
  intro k l pp hk
  have f₁ : FS C ⟨fun b => M.m b ∨ W b, M₁.τ⟩ (fun b => b = env.locals) nmG snG 4 env σ s₁ := (f.adv gl t₁ a₁).iff (M' := ⟨fun b => M.m b ∨ W b, M₁.τ⟩) gl.m rfl
  have adv : AdvW W₀ s₀.gens.size s₀ s₁ := g.adv.trans a₁.toW g.adv.gsz fun x hx => hx.elim
  refine ⟨W, xv, c, k, l, pp, fs, rfl, hfg, g.wn, fun b hb => f₁.al b (Or.inr hb), adv, yv_ok (fun b hb => Or.inl (by rw [gl.m]; exact hb)) r₁, fun s'' hkept hal halW hG h1 => ?_⟩
  refine hk s'' _ (h s'' (fun b o hb e => hkept b o hb (a₁.st b o e)) ?_)
  have hloc : W env.locals := g.locW
  -- the frame at the state where it wakes
  exact ⟨⟨fun _ => none, f₁.wake hσ (fun o e => hkept _ o (Or.inl hloc) e) hG h1 fun b hb => hb.elim (hal b) (halW b)⟩, Adv.refl.toW, fun b hb => Or.inl hb, hloc, hloc⟩

/-- the generator's values -/
noncomputable def gσ (x0 : Str) (pos : Int) (esc : Bool) (ch : Option V) : Sto := [some (.str false x0), some (.int pos), some (.bool esc), ch]
theorem gσ_self {x0 : Str} {pos : Int} {esc : Bool} {ch : Option V} (hc : ∀ v, ch = some v → selfV v = true) : ∀ i v, (gσ x0 pos esc ch).at i = some v → selfV v = true := by
  intro i v h
  match i with
  | 0 => cases h; rfl
  | 1 => cases h; rfl
  | 2 => cases h; rfl
  | 3 =>
    cases ch with
    | none => cases h
    | some u => cases h; exact hc _ rfl
  | n + 4 => cases h

theorem enum_at {x0 : Str} {k : Nat} {cs : List Nat} (hd : x0.cps.toList.drop k = cs) : ∀ items, enumV (.str false x0) = some items → items[k]? = (cs.head?.map fun c => V.tup [.int k, .str false ⟨#[c]⟩]) := by
  intro items h
  simp only [enumV] at h
  cases h
  rw [List.getElem?_map, List.getElem?_zipIdx]
  have : x0.cps.toList[k]? = cs.head? := by rw [← hd, List.head?_drop]
  rw [this]
  cases cs.head? with
  | none => rfl
  | some c => simp

theorem noCells (i : Nat) (c : Addr) (hi : i < nmG.length) (hl : snG.lookup (nmAt nmG i) ≠ some .local) {P : Prop} : P := by
  have : ∀ i, i < nmG.length → snG.lookup (nmAt nmG i) = some .local := by decide
  exact absurd (this i hi) hl

theorem ev_gC (K : Kx) (x0 : Str) (k : Int) (c : Nat) : ev K gC true (gσ x0 k false (some (.str false ⟨#[c]⟩))) = some (.bool (c == 92)) := by
  have h : ((⟨#[c]⟩ : Str) == ("\\" : Str)) = (c == 92) := by
    have e : ("\\" : Str) = ⟨#[92]⟩ := by decide +kernel
    rw [e]
    by_cases hc : c = 92
    · subst hc; rfl
    · have h1 : (c == 92) = false := by simpa using hc
      rw [h1]
      simp [hc]
  show some (V.bool ((⟨#[c]⟩ : Str) == ("\\" : Str))) = _
  rw [h]

set_option maxHeartbeats 1000000 in
/-- the turns of the generator's loop -/
theorem gf_loop (hr : RM A (C.d + 1)) {x0 : Str} {items : List V} (hitems : enumV (.str false x0) = some items) {itv : Value} {We WL : Pr} {τ₁ : Tok → Option Str} {st : Nat → Shared → Prop}
    {K : Flow → Sem Fin} {H : Value → Sem Fin} {pp : Pos} (Kit : ∀ n0, ItOK prog w (A.over (.forLoop (deT nmG gT) itv gLoop [] env) [.ret (backK env K H id id) none false [] (.func gBody env) pp []]) true itv items ⟨fun b => M.m b ∨ WL b, τ₁⟩ We n0 st)
    (hWe : ∀ b, We b → WL b ∧ ¬ C.Old b ∧ b ≠ env.locals) (hMWe : ∀ b, M.m b → ¬ We b) (hlocL : WL env.locals) (hco : env.scope.isCoroutine = false) {Wd : Pr} (hWd : ∀ b, Wd b ↔ WL b ∧ ¬ We b)
    (hend : ∀ (esc : Bool) (pos : Int) (ch : Option V) (s₀ s : Shared) (W₀ : Pr), (∀ v, ch = some v → selfV v = true) → GF C M env Wd s₀ W₀ (gσ x0 pos esc ch) s →
      Goes (model prog w) A (.func gBody env) (K .next) [] s (GP prog w A C.G M (escV (pos + 1) esc []) W₀ s₀)) :
    ∀ (cs : List Nat) (k : Nat) (esc : Bool) (pos : Int) (ch : Option V) (s₀ s : Shared) (W₀ : Pr), x0.cps.toList.drop k = cs → k ≤ x0.cps.toList.length → (∀ v, ch = some v → selfV v = true) → (esc = true → pos + 1 = k) → GF C M env WL s₀ W₀ (gσ x0 pos esc ch) s → st k s →
      Goes (model prog w) A (.forLoop (deT nmG gT) itv gLoop [] env) (denote table (.forLoop (deT nmG gT) itv gLoop [] env)) [.ret (backK env K H id id) none false [] (.func gBody env) pp []] s (GP prog w A C.G M (escV k esc cs) W₀ s₀) := by
  have hrl := rm_loop (b := gLoop) (t := deT nmG gT) (it := itv) (o := []) (env := env) (k := backK env K H id id) (g := false) (l := []) (bb := gBody) (env' := env) (p := pp) (kp := []) hr
  have hlenI : items.length = x0.cps.toList.length := by simp only [enumV] at hitems; cases hitems; simp
  -- the iterator's state survives what the frame does, and what others do meanwhile
  have keep1 : ∀ {k : Nat} {s s' : Shared}, st k s → Adv (fun b => b = env.locals) s.gens.size s s' → st k s' := fun {k s s'} h a => (Kit 0).keep k s s' h fun b o hb e => a.keep b o (fun z => hb.elim (fun q => (hWe b q).2.2 z) fun q => q (Or.inr (z ▸ hlocL))) e
  have keep2 : ∀ {k : Nat} {s s' : Shared}, st k s → (∀ b o, (WL b ∨ ¬ M.m b) → s.heap.get? b = some o → s'.heap.get? b = some o) → st k s' := fun {k s s'} h hk => (Kit 0).keep k s s' h fun b o hb e => hk b o (hb.elim (fun q => Or.inl (hWe b q).1) fun q => Or.inr fun z => q (Or.inl z)) e
  have keepE : ∀ {k : Nat} {s s' : Shared}, st k s → AdvE s s' → st k s' := fun {k s s'} h a => (Kit 0).keep k s s' h fun b o _ e => a.st b o e
  intro cs
  induction cs with
  | nil =>
    intro k esc pos ch s₀ s W₀ hd hle hch hpos g hst
    obtain ⟨τ, f⟩ := g.f
    have hk : k = x0.cps.toList.length := Nat.le_antisymm hle (List.drop_eq_nil_iff.mp hd)
    refine sx_forLoop ((Kit s.gens.size).done k s _ _ (by rw [enum_at hd items hitems]; rfl) hst (by rw [hlenI]; exact hle) f.al f.t fun s' aw => ?_)
    refine sx_block fun H' => ?_
    refine go_back (r := .ok .next) ?_
    show Goes (model prog w) A (.func gBody env) (K .next) [] s' _
    have hMd : Al (fun b => M.m b ∨ Wd b) s'.heap := fun b hb => by
      obtain ⟨o, ho⟩ := f.al b (hb.elim Or.inl fun z => Or.inr ((hWd b).mp z).1)
      exact ⟨o, aw.keep b o (hb.elim (hMWe b) fun z => ((hWd b).mp z).2) ho⟩
    have f' : FS C ⟨fun b => M.m b ∨ Wd b, τ⟩ (fun b => b = env.locals) nmG snG 4 env (gσ x0 pos esc ch) s' :=
      f.change aw (fun b hb => Or.inr (hWe b hb).1) (fun b hb => (hWe b hb).2.1) (fun b hb z => (hWe b z).2.2 hb) (fun i c hi hl _ => noCells i c hi hl) rfl (fun b hb => Or.inl (hb.elim Or.inl fun z => Or.inr ((hWd b).mp z).1)) hMd
        (fun b hb hx => hb.elim Or.inl fun z => Or.inr ((hWd b).mpr ⟨z, hx⟩))
    have hg : GF C M env Wd s₀ W₀ (gσ x0 pos esc ch) s' := ⟨⟨τ, f'⟩, g.adv.trans aw g.adv.gsz fun x hx => g.wn x (hWe x hx).1, fun b hb => g.wn b ((hWd b).mp hb).1, g.loc, (hWd _).mpr ⟨hlocL, fun z => (hWe _ z).2.2 rfl⟩⟩
    have := hend esc pos ch s₀ s' W₀ hch hg
    cases esc with
    | false => exact this
    | true => rw [hpos rfl] at this; exact this
  | cons c cs ih =>
    intro k esc pos ch s₀ s W₀ hd hle hch hpos g hst
    obtain ⟨τ, f⟩ := g.f
    have hi : items[k]? = some (V.tup [.int k, .str false ⟨#[c]⟩]) := by rw [enum_at hd items hitems]; rfl
    have hd' : x0.cps.toList.drop (k + 1) = cs := by rw [← List.tail_drop, hd]; rfl
    have hle' : k + 1 ≤ x0.cps.toList.length := by
      rcases Nat.lt_or_ge k x0.cps.toList.length with h | h
      · exact h
      · rw [List.drop_of_length_le h] at hd; cases hd
    have hcast : ((k + 1 : Nat) : Int) = (k : Int) + 1 := by push_cast; rfl
    refine sx_forLoop (next_mono ((Kit s.gens.size).next k s _ _ _ _ (Or.inl ⟨_, _, _, rfl⟩) hi hst f.al f.t fun x sa aa rx sta => ?_))
    have fa := f.away aa (fun b hb => Or.inr (hWe b hb).1) (fun b hb => (hWe b hb).2.1) (fun b hb z => (hWe b z).2.2 hb) (fun i c hi hl _ => noCells i c hi hl)
    have ga : GF C M env WL s₀ W₀ (gσ x0 pos esc ch) sa := ⟨⟨τ, fa⟩, g.adv.trans aa.toW g.adv.gsz fun x hx => g.wn x (hWe x hx).1, g.wn, g.loc, g.locW⟩
    have rx' : VR (⟨fun b => M.m b ∨ WL b, τ⟩ : Gh) sa.heap (.tup [.int k, .str false ⟨#[c]⟩]) x := yv_ok (M := ⟨fun b => M.m b ∨ WL b, τ₁⟩) (M' := ⟨fun b => M.m b ∨ WL b, τ⟩) (fun b hb => Or.inl hb) rx
    have hput : putT 4 gT (.tup [.int k, .str false ⟨#[c]⟩]) (gσ x0 pos esc ch) = some (gσ x0 k esc (some (.str false ⟨#[c]⟩))) := rfl
    refine fa.assign hrl.handled hput rx' _ _ fun sb ab fb => ?_
    intro K' hK' H'
    subst hK'
    have gb := ga.step (τ := τ) ab fb
    have stb := keep1 sta ab
    have hself : ∀ v, some (V.str false ⟨#[c]⟩) = some v → selfV v = true := fun v e => by cases e; rfl
    -- back to the loop's head
    have again : ∀ (esc' : Bool) (s' s₁ : Shared) (W₁ : Pr), GF C M env WL s₁ W₁ (gσ x0 k esc' (some (.str false ⟨#[c]⟩))) s' → st (k + 1) s' →
        Goes (model prog w) A (.forLoop (deT nmG gT) itv gLoop [] env) (.pure (.again (.forLoop (deT nmG gT) itv gLoop [] env))) [.ret (backK env K H id id) none false [] (.func gBody env) pp []] s' (GP prog w A C.G M (escV (k + 1) esc' cs) W₁ s₁) := fun esc' s' s₁ W₁ g' st' => by
      have := ih (k + 1) esc' k (some (.str false ⟨#[c]⟩)) s₁ s' W₁ hd' hle' hself (fun _ => hcast.symm) g' st'
      rw [hcast] at this
      exact go_again rfl this
    refine sx_execs_cons (sx_If ?_)
    obtain ⟨b', e, kk⟩ := (ev_ok hrl gE nmG snG _ _ _ env _ sb (by decide) fb).2 (.bool esc) (by cases esc <;> rfl)
    cases e
    refine kk _ _ fun sc Mc gc tc ac => ?_
    have fc : FS C ⟨fun b => M.m b ∨ WL b, Mc.τ⟩ (fun b => b = env.locals) nmG snG 4 env (gσ x0 k esc (some (.str false ⟨#[c]⟩))) sc := (fb.adv gc tc ac).iff (M' := ⟨fun b => M.m b ∨ WL b, Mc.τ⟩) gc.m rfl
    have gc' := gb.step (τ := Mc.τ) (ac.to (Nat.le_refl _)) fc
    have stc := keepE stb ac
    cases esc with
    | true =>
      simp only [if_true]
      show Goes _ _ _ _ _ _ (GP prog w A C.G M (.tup [.int k, .str false ⟨#[92, c]⟩] :: escV (k + 1) false cs) W₀ s₀)
      refine sx_execs_cons (gf_yield hrl rfl rfl rfl (x := y1) (n := true && false) (by decide) (by rfl) gc' (gσ_self hself) hco fun s'' hkept g'' => ?_)
      have st'' := keep2 stc hkept
      refine sx_execs_cons (sx_wrap (gf_stmt hrl (st := gF) (by decide) (σ' := gσ x0 k false (some (.str false ⟨#[c]⟩))) (by rfl) g'' _ _ fun s₂ a₂ g₂ => ?_))
      exact again false s₂ s'' WL g₂ (keep1 st'' a₂)
    | false =>
      simp only [Bool.false_eq_true, if_false]
      refine sx_execs_cons (sx_If ?_)
      obtain ⟨b', e, kk⟩ := (ev_ok hrl gC nmG snG _ _ _ env _ sc (by decide) fc).2 (.bool (c == 92)) (ev_gC C.K x0 k c)
      cases e
      refine kk _ _ fun sd Md gd td ad => ?_
      have fd : FS C ⟨fun b => M.m b ∨ WL b, Md.τ⟩ (fun b => b = env.locals) nmG snG 4 env (gσ x0 k false (some (.str false ⟨#[c]⟩))) sd := (fc.adv gd td ad).iff (M' := ⟨fun b => M.m b ∨ WL b, Md.τ⟩) gd.m rfl
      have gd' := gc'.step (τ := Md.τ) (ad.to (Nat.le_refl _)) fd
      have std := keepE stc ad
      show Goes _ _ _ _ _ _ (GP prog w A C.G M (if c == 92 then escV (k + 1) true cs else .tup [.int k, .str false ⟨#[c]⟩] :: escV (k + 1) false cs) W₀ s₀)
      cases hc : c == 92 with
      | true =>
        simp only [if_true]
        refine sx_execs_cons (sx_wrap (gf_stmt hrl (st := gS) (by decide) (σ' := gσ x0 k true (some (.str false ⟨#[c]⟩))) (by rfl) gd' _ _ fun s₂ a₂ g₂ => ?_))
        exact again true s₂ s₀ W₀ g₂ (keep1 std a₂)
      | false =>
        simp only [Bool.false_eq_true, if_false]
        refine sx_execs_cons (gf_yield hrl rfl rfl rfl (x := y2) (n := false) (by decide) (by rfl) gd' (gσ_self hself) hco fun s'' hkept g'' => ?_)
        exact again false s'' s'' WL g'' (keep2 std hkept)
end

end Mine

namespace Mine
open PySem PySem.W PySem.Calls PyProof.Rows

variable {prog : Program} {w : World} {C : Cx prog w} {A : Around} {M : Gh} {env : Env}

theorem escV_end (pos : Int) : escV (pos + 1) true [] = [.tup [.int pos, .str false ("\\" : Str)]] := by
  have e : ("\\" : Str) = ⟨#[92]⟩ := by decide +kernel
  rw [e]
  have : pos + 1 - 1 = pos := by lia
  simp [escV, this]

set_option maxHeartbeats 1000000 in
theorem gf_func (hr : RM A (C.d + 1)) {x0 : Str} {W₀ : Pr} {s : Shared} (g : GF C M env W₀ s W₀ [some (.str false x0), none, none, none] s) (hco : env.scope.isCoroutine = false) :
    Goes (model prog w) A (.func gBody env) (denote table (.func gBody env)) [] s (GP prog w A C.G M (escV 0 false x0.cps.toList) W₀ s) := by
  have hrf := rm_func (b := gBody) (env := env) hr
  refine sx_func fun H' => ?_
  refine sx_execs_cons (sx_wrap (gf_stmt hrf (st := g1) (by decide) (σ' := [some (.str false x0), some (.int 0), none, none]) (by rfl) g _ _ fun s₁ a₁ h₁ => ?_))
  refine sx_execs_cons (sx_wrap (gf_stmt hrf (st := g2) (by decide) (σ' := gσ x0 0 false none) (by rfl) h₁ _ _ fun s₂ a₂ h₂ => ?_))
  obtain ⟨τ, f⟩ := h₂.f
  refine sx_execs_cons (sx_For ?_ (fun x => rfl))
  refine Call_Name (one_arg _ gI) (Name_function_global f.kind (f.gkind (by decide)) (C.ty "enumerate" (List.mem_cons_of_mem _ (List.mem_cons_self ..)) _ env s₂ _ _ f.gl f.bl f.g ?_) (by decide))
  rw [if_neg (by decide)]
  refine PySem.callWith_type rfl (evalArgs_plain (spliced_cons ((ev_ok hrf gI nmG snG _ _ _ env _ s₂ (by decide) f).1 (.str false x0) rfl _ _ fun xv s₃ M₃ g₃ t₃ a₃ r₃ => spliced_nil ?_)))
  have f₃ := f.adv g₃ t₃ a₃
  refine enum_iter (v := .str false x0) rfl f₃.al r₃ _ _ fun itv We s₄ im => ?_
  intro pp
  have hA : (A.over (.forLoop (deT nmG gT) itv gLoop [] env) [.ret (backK env (fun f => match f with | .next => (execs [gEnd] env).wrap (fun f => .pure (.done (.ret (match f with | .ret v => v | _ => .none)))) H' id id | f => .pure (.done (.ret (match f with | .ret v => v | _ => .none)))) H' id id) none false [] (.func gBody env) pp []]).handled = none := hr.handled
  have im₂ := im _ hA
  have hWefr : ∀ b, We b → s₃.heap.get? b = none := fun b hb => (im₂.fresh b hb).1
  have hMW : ∀ b, (M.m b ∨ W₀ b) → ¬ We b := fun b hb hw => by
    have : M₃.m b := by rw [g₃.m]; exact hb
    exact f₃.mfresh (hWefr b hw) this
  obtain ⟨st, Kit, st0⟩ := im₂.ok ⟨fun b => M.m b ∨ (W₀ b ∨ We b), M₃.τ⟩ (fun b hb => Or.inr (Or.inr hb)) (fun b hb => by
    rcases hb with hb | hb | hb
    · exact Or.inl (by rw [g₃.m]; exact Or.inl hb)
    · exact Or.inl (by rw [g₃.m]; exact Or.inr hb)
    · exact Or.inr (hWefr b hb)) (fun _ _ e => e)
  have fg := f₃.grow im₂.adv im₂.fresh (τ := M₃.τ) (fun _ _ e => e) (fun t ht => t₃.mono im₂.adv.toks t ht)
  have f₄ : FS C ⟨fun b => M.m b ∨ (W₀ b ∨ We b), M₃.τ⟩ (fun b => b = env.locals) nmG snG 4 env (gσ x0 0 false none) s₄ := fg.iff (by
    funext b; apply propext
    rw [g₃.m]
    exact ⟨fun z => z.elim (fun q => q.elim Or.inl fun q => Or.inr (Or.inl q)) fun q => Or.inr (Or.inr q), fun z => z.elim (fun q => Or.inl (Or.inl q)) fun q => q.elim (fun q => Or.inl (Or.inr q)) Or.inr⟩) rfl
  have adv : AdvW W₀ s.gens.size s s₄ := (h₂.adv.trans a₃.toW h₂.adv.gsz fun x hx => hx.elim).trans im₂.adv.toW (Nat.le_trans h₂.adv.gsz a₃.gsz) fun x hx => hx.elim
  have advs3 : AdvW W₀ s.gens.size s s₃ := h₂.adv.trans a₃.toW h₂.adv.gsz fun x hx => hx.elim
  have hwn : ∀ b, (W₀ b ∨ We b) → W₀ b ∨ s.heap.get? b = none := fun b hb => by
    rcases hb with hb | z
    · exact Or.inl hb
    · by_cases hw : W₀ b
      · exact Or.inl hw
      · right
        cases e : s.heap.get? b with
        | none => rfl
        | some o =>
          have := advs3.keep b o hw e
          rw [hWefr b z] at this
          cases this
  have h₄ : GF C M env (fun b => W₀ b ∨ We b) s W₀ (gσ x0 0 false none) s₄ := ⟨⟨M₃.τ, f₄⟩, adv, hwn, h₂.loc, Or.inl h₂.loc⟩
  have := gf_loop (M := M) (env := env) (K := fun f => match f with | .next => (execs [gEnd] env).wrap (fun f => .pure (.done (.ret (match f with | .ret v => v | _ => .none)))) H' id id | f => .pure (.done (.ret (match f with | .ret v => v | _ => .none)))) (H := H') (pp := pp) hr (x0 := x0) rfl Kit
    (fun b hb => ⟨Or.inr hb, f₃.old (hWefr b hb), fun z => hMW b (Or.inr (by rw [z]; exact h₂.loc)) hb⟩) (fun b hb => hMW b (Or.inl hb)) (Or.inl h₂.loc) hco (Wd := W₀) (fun b => ⟨fun hb => ⟨Or.inl hb, hMW b (Or.inr hb)⟩, fun hb => hb.1.elim id fun z => absurd z hb.2⟩)
    (fun esc pos ch s₀ s' W₁ hch hg => ?_) x0.cps.toList 0 false 0 none s s₄ W₀ rfl (Nat.zero_le _) (fun v e => by cases e) (fun e => by cases e) h₄ st0
  · exact this
  · obtain ⟨τ', f'⟩ := hg.f
    show Goes (model prog w) A (.func gBody env) ((execs [gEnd] env).wrap _ H' id id) [] s' _
    refine sx_execs_cons (sx_If ?_)
    obtain ⟨b', e, kk⟩ := (ev_ok hrf gE2 nmG snG _ _ _ env _ s' (by decide) f').2 (.bool esc) (by cases esc <;> rfl)
    cases e
    refine kk _ _ fun sc Mc gc tc ac => ?_
    have fc : FS C ⟨fun b => M.m b ∨ W₀ b, Mc.τ⟩ (fun b => b = env.locals) nmG snG 4 env (gσ x0 pos esc ch) sc := (f'.adv gc tc ac).iff (M' := ⟨fun b => M.m b ∨ W₀ b, Mc.τ⟩) gc.m rfl
    have hgc := hg.step (τ := Mc.τ) (ac.to (Nat.le_refl _)) fc
    cases esc with
    | true =>
      simp only [if_true]
      rw [escV_end]
      refine sx_execs_cons (gf_yield hrf rfl rfl rfl (x := y3) (n := true) (by decide) (by rfl) hgc (gσ_self hch) hco fun s'' hkept g'' => ?_)
      exact go_last (r := .ok (.ret .none)) ⟨rfl, Adv.refl.toW⟩
    | false =>
      simp only [Bool.false_eq_true, if_false]
      exact go_last (r := .ok (.ret .none)) ⟨rfl, hgc.adv⟩

end Mine

namespace Mine
open PySem PySem.W PySem.Calls PyProof.Rows

variable {prog : Program} {w : World}

theorem next_gen {A : Around} {s : Shared} {a : Addr} {g : Nat} {gs : GenState} {c : Code} {t : Sem Fin} {fs : List Frame} {P : End → Shared → Prop} {Q : Option Value → Shared → Prop} {E : Value → Shared → Prop} (hh : A.handled = none) (hl : s.heap.NoLimit) (hroom : A.depth < recursionLimit)
    (hg : s.heap.IsGen a g) (hgs : s.gens[g]? = some gs) (hst : (gs = .fresh c ∧ t = denote table c ∧ fs = []) ∨ (∃ k l p, gs = .suspended k l c p fs false ∧ t = k (.send .none)))
    (hx : Goes (model prog w) A.in1 c t fs (s.setGen g .running) P)
    (hP : ∀ e s₁, P e s₁ → (∃ x k l c p fs, e = .susp x false l k c p fs ∧ Q (some x) (s₁.setGen g e.genState)) ∨ (e = .ret (.ok (.ret .none)) ∧ ∀ h', (∀ b o, s₁.heap.get? b = some o → h'.get? b = some o) → Q none { s₁.setGen g .finished with heap := h' })) :
    wpAny (model prog w) A (pyNext (.ref a)) Q E s := by
  unfold pyNext
  refine wpAny_bind (wpAny_attempt (wpAny_callSpecial?_slot (name := Str.ofString "__next__") hg.typeIs slot_gen_next
    (wpAny_call_entry slot_gen_next hg.typeIs entry_gen_next ?_ (args_gen_next _))))
  show wpAny _ A.in1 (Builtin.Generator.genWake (.ref a) (.send .none)) _ _ s
  unfold Builtin.Generator.genWake
  refine wpAny_bind (wpAny_holding (wpAny_genNumber hg (wpAny_bind (wpAny_genState hgs ?_))))
  have fin : ∀ {α : Type} {k : GenResult → Sem α} {Q' : α → Shared → Prop} {E' : Value → Shared → Prop}, (∀ e s₁, P e s₁ → wpAny (model prog w) A.in1 (k e.result) Q' E' (s₁.setGen g e.genState)) → wpAny (model prog w) A.in1 (.resume g (.send .none) [] k) Q' E' s := by
    intro α k Q' E' hk
    refine go_wake hgs ?_ (hx.imp fun e s₁ he => hk e s₁ he)
    rcases hst with ⟨h1, h2, h3⟩ | ⟨k₀, l, p, h1, h2⟩
    · exact Or.inl ⟨h1, rfl, h2, h3⟩
    · exact Or.inr ⟨k₀, l, p, false, h1, h2⟩
  cases gs with
  | running => rcases hst with ⟨h, _⟩ | ⟨_, _, _, h, _⟩ <;> cases h
  | finished => rcases hst with ⟨h, _⟩ | ⟨_, _, _, h, _⟩ <;> cases h
  | _ =>
    refine wpAny_bind (wpAny_roomToWake hl hroom ?_)
    show wpAny _ A.in1 (.resume g (.send .none) [] _) _ _ s
    refine fin fun e s₁ he => ?_
    rcases hP e s₁ he with ⟨x, k, l, c', p, fs', rfl, hq⟩ | ⟨rfl, hq⟩
    · exact wpAny_pure ⟨x, rfl, wpAny_pure hq⟩
    · show wpAny _ A.in1 (newExc (.type "StopIteration") [] >>= _) _ _ _
      refine wpAny_bind ?_
      simp only [newExc, newTuple]
      refine wpAny_bind (wpAny_newObj_type ?_ (by size_fits))
      refine wpAny_bind (m := firstArgMember _ _) (wpAny_of_eq (a := Value.none) (by first | rfl | (simp only [firstArgMember]; rfl)) ?_)
      refine wpAny_newObj_type ?_ (by size_fits)
      simp only [raiseNew]
      refine wpAny_bind (wpAny_bind (wpAny_handled ?_))
      first | rw [show A.in1.handled = none from hh] | rw [hh]
      refine wpAny_throw ?_
      refine wpAny_bind (wpAny_isInstance (T := "StopIteration") (b := true) ⟨_, Heap.get?_push_size _ rfl, rfl⟩ isSubtype_stop ?_)
      exact wpAny_pure (hq _ fun b o hb => Heap.get?_push_of_some _ (Heap.get?_push_of_some _ hb))

end Mine

namespace Mine
open PySem PySem.W PySem.Calls PyProof.Rows

variable {prog : Program} {w : World}

/-- a generator that waits -/
noncomputable def GSt (prog : Program) (w : World) (A : Around) (G : Heap → Prop) (M : Gh) (a : Addr) (g : Nat) (items : List V) (W : Pr) (i : Nat) (s : Shared) : Prop :=
  s.heap.IsGen a g ∧ (¬ M.m a ∧ ¬ W a) ∧ ∃ gs c t fs, s.gens[g]? = some gs ∧ gs.bare = true ∧ ((gs = .fresh c ∧ t = denote table c ∧ fs = []) ∨ (∃ k l p, gs = .suspended k l c p fs false ∧ t = k (.send .none))) ∧
    ∀ s'' : Shared, (∀ b o, (W b ∨ ¬ M.m b) → s.heap.get? b = some o → s''.heap.get? b = some o) → Al M.m s''.heap → Al W s''.heap → G s''.heap → 1 ≤ s''.toks → Goes (model prog w) A.in1 c t fs s'' (GP prog w A.in1 G M (items.drop i) W s'')

theorem setGen_gens {s : Shared} {g : Nat} {x : GenState} {j : Nat} (h : j ≠ g) : (s.setGen g x).gens[j]? = s.gens[j]? := by
  unfold Shared.setGen
  simp [Array.getElem?_setIfInBounds, Ne.symm h]
theorem setGen_size {s : Shared} {g : Nat} {x : GenState} : (s.setGen g x).gens.size = s.gens.size := by
  unfold Shared.setGen; simp
theorem setGen_bare {s : Shared} {g : Nat} {x : GenState} (hx : x.bare = true) (h : AllBare s.gens) : AllBare (s.setGen g x).gens := by
  intro y hy
  obtain ⟨i, hi, rfl⟩ := Array.mem_iff_getElem.mp hy
  have hi' : i < s.gens.size := by rw [setGen_size] at hi; exact hi
  by_cases e : i = g
  · subst e
    have : (s.setGen i x).gens[i] = x := by
      have h2 : (s.setGen i x).gens[i]? = some x := by unfold Shared.setGen; simp [hi']
      rw [Array.getElem?_eq_getElem hi] at h2
      exact Option.some.inj h2
    rw [this]; exact hx
  · have h1 := setGen_gens (s := s) (x := x) e
    rw [Array.getElem?_eq_getElem hi, Array.getElem?_eq_getElem hi'] at h1
    rw [Option.some.inj h1]
    exact h _ (Array.getElem_mem hi')

/-- what a run of the generator comes to for the one who asked -/
theorem run_adv {W : Pr} {s s₁ : Shared} {g : Nat} {x : GenState} (hlt : g < s.gens.size) (hx : x.bare = true) (a : AdvW W s.gens.size (s.setGen g .running) s₁) : AdvW W g s (s₁.setGen g x) := by
  refine ⟨fun b o hb e => a.keep b o hb e, fun i hi => ?_, ?_, fun hb => ?_, a.os, a.toks⟩
  · have hig : i ≠ g := Nat.ne_of_lt hi
    rw [setGen_gens hig]
    rcases Nat.lt_or_ge i s.gens.size with h | h
    · rw [a.gens i h, setGen_gens hig]
    · exact absurd hi (Nat.not_lt.mpr (Nat.le_of_lt (Nat.lt_of_lt_of_le hlt h)))
  · rw [setGen_size]; exact Nat.le_trans (by rw [setGen_size]; exact Nat.le_refl _) a.gsz
  · exact setGen_bare hx (a.bare (setGen_bare rfl hb))

theorem itg_gen {A : Around} {G : Heap → Prop} (hnl : ∀ h, G h → h.NoLimit) (hh : A.handled = none) (hroom : A.depth < recursionLimit) {M : Gh} {a : Addr} {g : Nat} {items : List V} : ItG prog w A G false (.ref a) items M g (GSt prog w A G M a g items) where
  next := fun W i s v tg Q E ht hi hst hM hW hG h1 hQ => by
    obtain ⟨hg, hma, gs, c, t, fs, hgs, hbare, hstart, hrun⟩ := hst
    have hlt : g < s.gens.size := (Array.getElem?_eq_some_iff.mp hgs).1
    have hx := hrun (s.setGen g .running) (fun b o _ e => e) hM hW hG h1
    rw [drop_at hi] at hx
    refine next_gen hh (hnl _ hG) hroom hg hgs hstart hx fun e s₁ he => Or.inl ?_
    obtain ⟨W', x, c', k, l, p, fs', rfl, hfg, hW', halW', hadv, hrx, hcont⟩ := he
    refine ⟨x, k, l, c', p, fs', rfl, x, rfl, ?_⟩
    have hb : (End.susp x false l k c' p fs').genState.bare = true := by simp [End.genState, GenState.bare, hfg]
    rw [setGen_size] at hadv
    have hav : AdvW W g s (s₁.setGen g (End.susp x false l k c' p fs').genState) := run_adv hlt hb hadv
    have hg1 : s₁.heap.IsGen a g := by
      obtain ⟨o, nm, qn, ho, r⟩ := hg
      exact ⟨o, nm, qn, hadv.keep a o hma.2 ho, r⟩
    have hma' : ¬ M.m a ∧ ¬ W' a := ⟨hma.1, fun z => (hW' a z).elim hma.2 fun q => by
      obtain ⟨o, nm, qn, ho, r⟩ := hg
      have q : s.heap.get? a = none := q
      rw [q] at ho; cases ho⟩
    obtain ⟨oG, nmG', qnG, hoG, hcG, _⟩ := id hg1
    refine owned_not ht (n := "generator") hoG hcG (by decide) (hQ x _ W' hW' halW' hav hrx ⟨hg1, hma', (End.susp x false l k c' p fs').genState, c', k (.send .none), fs', ?_, hb, Or.inr ⟨k, l, p, by simp [End.genState, hfg], rfl⟩, fun s'' hk hM'' hW'' hG'' h1'' => hcont s'' hk hM'' hW'' hG'' h1''⟩)
    have hlt1 : g < s₁.gens.size := Nat.lt_of_lt_of_le hlt (Nat.le_trans (by rw [setGen_size]; exact Nat.le_refl _) hadv.gsz)
    unfold Shared.setGen
    simp [hlt1]
  done := fun W i s Q E hi hst hle hM hW hG h1 hQ => by
    obtain ⟨hg, hma, gs, c, t, fs, hgs, hbare, hstart, hrun⟩ := hst
    have hlt : g < s.gens.size := (Array.getElem?_eq_some_iff.mp hgs).1
    have hx := hrun (s.setGen g .running) (fun b o _ e => e) hM hW hG h1
    rw [List.drop_of_length_le (List.getElem?_eq_none_iff.mp hi)] at hx
    refine next_gen hh (hnl _ hG) hroom hg hgs hstart hx fun e s₁ he => Or.inr ?_
    obtain ⟨rfl, hadv⟩ := he
    rw [setGen_size] at hadv
    refine ⟨rfl, fun h' hk => hQ _ ?_⟩
    have hav : AdvW W g s (s₁.setGen g .finished) := run_adv hlt rfl hadv
    exact ⟨fun b o hb e => hk b o (hav.keep b o hb e), hav.gens, hav.gsz, hav.bare, hav.os, hav.toks⟩
  keep := fun W i s s' hst hk hgens hz => by
    obtain ⟨hg, hma, gs, c, t, fs, hgs, hbare, hstart, hrun⟩ := hst
    have hlt : g < s.gens.size := (Array.getElem?_eq_some_iff.mp hgs).1
    refine ⟨?_, hma, gs, c, t, fs, by rw [hgens g hlt]; exact hgs, hbare, hstart, fun s'' hk' => hrun s'' fun b o hb e => hk' b o hb (hk b o hb e)⟩
    obtain ⟨o, nm, qn, ho, r⟩ := hg
    exact ⟨o, nm, qn, hk a o (Or.inr hma.1) ho, r⟩

/-- the frame may change its names alone -/
theorem FS.lessCh {C : Cx prog w} {M : Gh} {Ch : Pr} {n : Nat} {env : Env} {σ : Sto} {s : Shared} (f : FS C M Ch nmG snG n env σ s) (hσ : ∀ i us, σ.at i ≠ some (.olst us)) : FS C M (fun b => b = env.locals) nmG snG n env σ s := by
  obtain ⟨m, hn, hv⟩ := f.vals
  refine ⟨f.kind, f.names, f.gl, f.bl, f.g, f.t, f.tb, f.al, fun b hb => by rw [hb]; exact f.sub _ f.loc, f.len, rfl, ⟨m, hn, fun i hi => ?_⟩, f.inj, fun i c hi hl hc => noCells i c (f.wk i hi).1 hl, f.one, f.ml, f.nd, f.wk, f.pl, f.cm⟩
  obtain ⟨x, hl, hy⟩ := hv i hi
  refine ⟨x, hl, fun v e => ?_⟩
  obtain ⟨y, hx, r, o⟩ := hy v e
  exact ⟨y, hx, r, fun us e' => absurd (e' ▸ e) (hσ i us)⟩

theorem rm_in1 {A : Around} {d : Nat} (r : RM A (d + 1)) : RM A.in1 d := ⟨r.handled, by have := r.depth; show A.depth + d < _; lia, by have := r.units; show A.units + 1 + 8 * d + 80 < _; lia⟩

/-- the generator as the contexts want it -/
theorem gen_ok (C : Cx prog w) {a : Addr} {fd : FuncData} (hn : fd.scope.names = snG) (hk : fd.scope.kind = .function) (hgl : fd.globals = C.gl) (hbl : fd.builtins = C.bl)
    (hco : fd.scope.isCoroutine = false) (hgen : fd.scope.isGenerator = true) (hclo : fd.closure = []) (hbody : fd.body = .stmts gBody)
    (hbind : ∀ x : Value, bindArgs fd ⟨[x], []⟩ = pure (nmG.zip [x]))
    (hG : ∀ h, C.G h → ∃ o, h.get? a = some o ∧ o.data = .func fd ∧ h.CodeRec fd.code fd.qualname ∧ h.NoLimit) {n : Bool} {x0 : Str} :
    ∀ A (s : Shared) (M : Gh) x, RM A (C.d + 2) → C.G s.heap → 1 ≤ s.toks → Tb M s.toks → Al M.m s.heap → VR M s.heap (.str n x0) x → ∀ (Q E : Value → Shared → Prop),
      (∀ itv W s', GenMade prog w A C.G false (escV 0 false x0.cps.toList) M s itv W s' → Q itv s') → wpAny (model prog w) A (call (.ref a) [x]) (fun r s₁ => wpAny (model prog w) A (pyIter r) Q E s₁) E s := by
  intro A s M x hr g h1 hb hal r Q E h
  obtain ⟨o, ho, hd, hcd, hlim⟩ := hG _ g
  have hfn : FnOK nmG snG := okFn_ok (by decide)
  obtain ⟨t, rfl, _⟩ := r
  have r' : VRs M s.heap [.str false x0] [.str x0 t] := ⟨_, _, rfl, ⟨t, rfl, fun z => nomatch z⟩, rfl⟩
  refine wpAny_call (codeAny_call_generator hr.d ho hd hco hgen hbody hcd ?_)
  rw [hbind, hclo]
  refine wpAny_pure (wpAny_with_toks (Nat.le_refl s.toks) (wpAny_newFunctionEnv_cells hk ?_ fun env he s₁ x ht => ?_))
  · intro y hy
    have hl : ∀ i, i < nmG.length → snG.lookup (nmAt nmG i) = some .local := by decide
    obtain ⟨i, hi, hix⟩ := List.mem_iff_getElem.mp hy
    have hin : i < nmG.length := by rw [List.length_zip] at hi; lia
    have e : y.1 = nmAt nmG i := by
      rw [← hix, List.getElem_zip]
      unfold nmAt
      rw [List.getD_eq_getElem?_getD, List.getElem?_eq_getElem hin]; rfl
    rw [e, hn]
    exact Or.inl (hl i hin)
  have he' : callEnvC fd s.heap.objs.size a = env := he.symm
  clear he
  refine ⟨hlim.keeps x.toInCall.keep, ?_⟩
  rw [← he'] at x
  obtain ⟨adv, Ch, hfr, f⟩ := FS.start (C := C) hfn hn hk hgl hbl (a := a) (vs := [.str false x0]) (by show 1 ≤ 4; lia) g h1 hb hal rfl r' x ht
  have hσ : ∀ i v, Sto.at ([V.str false x0].map some ++ List.replicate (nmG.length - [V.str false x0].length) none) i = some v → selfV v = true := fun i v e => by
    rw [arg_at] at e
    match i with
    | 0 => cases e; rfl
    | n + 1 => simp at e
  have f1 := f.lessCh fun i us e => by have := hσ i _ e; cases this
  have hsame := x.toInCall.same
  have henv := he'
  rw [he'] at f f1
  have hgens : s₁.gens = s.gens := by obtain ⟨_, _, h⟩ := hsame; rw [h]
  have hcoE : env.scope.isCoroutine = false := by rw [← henv]; exact hco
  let s₂ : Shared := { s₁ with gens := s₁.gens.push (.fresh (.func gBody env)), toks := s₁.toks + 1 + 1, heap := s₁.heap.push { cls := .type "generator", data := .fields #[.int s₁.gens.size 0, .str fd.name s₁.toks, .str fd.qualname (s₁.toks + 1)] } }
  have a2 : AdvE s₁ s₂ := ⟨fun b o _ e => Heap.get?_push_of_some _ e, fun b o e => ⟨o, Heap.get?_push_of_some _ e⟩, fun i hi => by show (s₁.gens.push _)[i]? = _; rw [Array.getElem?_push_lt hi, Array.getElem?_eq_getElem hi], by show _ ≤ (s₁.gens.push _).size; rw [Array.size_push]; exact Nat.le_succ _, fun hb => hb.push rfl, rfl, Nat.le_add_right _ 2⟩
  have hIs : s₂.heap.IsGen s₁.heap.objs.size s₁.gens.size := ⟨_, _, _, Heap.get?_push_size _ rfl, rfl, rfl, rfl⟩
  refine wpAny_pyIter_gen hIs (h _ Ch _ ⟨adv.trans a2, fun b hb => ⟨hfr b hb, a2.alive b _ (f.al b (Or.inr hb)).choose_spec⟩, ?_⟩)
  have hgz : s₁.gens.size = s.gens.size := by rw [hgens]
  refine ⟨GSt prog w A C.G M s₁.heap.objs.size s.gens.size (escV 0 false x0.cps.toList), itg_gen (fun h hg => (hG h hg).choose_spec.2.2.2) hr.handled hr.d, ?_⟩
  refine ⟨by rw [← hgz]; exact hIs, ⟨fun z => ?_, fun z => ?_⟩, .fresh (.func gBody env), .func gBody env, _, [], ?_, rfl, Or.inl ⟨rfl, rfl, rfl⟩, fun s'' hk hM'' hW'' hG'' h1'' => ?_⟩
  · obtain ⟨o', ho'⟩ := f.al _ (Or.inl z)
    exact absurd (Heap.lt_size ho') (Nat.lt_irrefl _)
  · obtain ⟨o', ho'⟩ := f.al _ (Or.inr z)
    exact absurd (Heap.lt_size ho') (Nat.lt_irrefl _)
  · show (s₁.gens.push _)[s.gens.size]? = _
    rw [← hgz]; exact Array.getElem?_push_size ..
  · have hL : Ch env.locals := f.loc
    have fw := (f1.adv .refl (f1.tb.mono a2.toks) a2).wake hσ (s := s'') (fun o e => hk _ o (Or.inl hL) e) hG'' h1'' (fun b hb => hb.elim (hM'' b) (hW'' b))
    exact gf_func (C := C) (rm_in1 hr) ⟨⟨_, fw⟩, Adv.refl.toW, fun b hb => Or.inl hb, hL, hL⟩ hcoE

end Mine

namespace Mine
open PySem PySem.W PySem.Calls PyProof.Rows

variable {prog : Program} {w : World} {C : Cx prog w} {A : Around} {M : Gh} {Ch : Pr} {nm : List Str} {sn : Nms} {n : Nat} {env : Env} {σ : Sto} {s s' : Shared}

noncomputable def Kx.withDic (K : Kx) (d : Addr) (kvs : List (Str × Str)) : Kx := { K with gen := fun _ _ => none, dic := fun b => if b = d then kvs else K.dic b }

theorem dictOf_stay {h h' : Heap} {d : Addr} {xs : List (Str × Value)} (hm : h.DictOf (strKind prog w) d xs) (hk : ∀ o, h.get? d = some o → h'.get? d = some o) : h'.DictOf (strKind prog w) d xs :=
  let ⟨o, es, ep, ho, r⟩ := hm; ⟨o, es, ep, hk o ho, r⟩

noncomputable def Cx.withDic (C : Cx prog w) (d : Addr) (kvs : List (Str × Str)) : Cx prog w where
  K := C.K.withDic d kvs
  Old b := C.Old b ∨ b = d
  gl := C.gl
  bl := C.bl
  d := C.d
  G h := C.G h ∧ ∃ xs, h.DictOf (strKind prog w) d xs ∧ ∀ k z, kvs.lookup k = some z → ∃ t, valueAt xs k = some (.str z t)
  stay h h' g hk := ⟨C.stay h h' g.1 fun b o hb e => hk b o (Or.inl hb) e, let ⟨xs, hd, hz⟩ := g.2; ⟨xs, dictOf_stay hd fun o e => hk d o (Or.inr rfl) e, hz⟩⟩
  live h g b hb := hb.elim (C.live h g.1 b) fun e => by
    obtain ⟨xs, ⟨o, _, _, ho, _⟩, _⟩ := g.2
    exact ⟨o, by rw [e]; exact ho⟩
  share h g := C.share h g.1
  gname id v e M A env s h1 h2 g := C.gname id v e M A env s h1 h2 g.1
  bi id hi A env s Q E h1 h2 g := C.bi id hi A env s Q E h1 h2 g.1
  ty id hi A env s Q E h1 h2 g := C.ty id hi A env s Q E h1 h2 g.1
  fn id vs v e := let ⟨a, h1, h2, h3⟩ := C.fn id vs v e
    ⟨a, fun h g => h1 h g.1, fun A env s Q E e1 e2 g => h2 A env s Q E e1 e2 g.1, fun A s M xs hr hp g => h3 A s M xs hr hp g.1⟩
  nolim h g := C.nolim h g.1
  dic a k z e h g := by
    by_cases had : a = d
    · subst had
      obtain ⟨xs, hd, hz⟩ := g.2
      refine ⟨xs, hd, hz k z ?_⟩
      have e : (if a = a then kvs else C.K.dic a).lookup k = some z := e
      rwa [if_pos rfl] at e
    · have e : (if a = d then kvs else C.K.dic a).lookup k = some z := e
      rw [if_neg had] at e
      exact C.dic a k z e h g.1
  gen id v vs e := nomatch e

theorem FS.withDic (f : FS C M Ch nm sn n env σ s) {d : Addr} {kvs : List (Str × Str)} (hd : ¬ Ch d) (g : (C.withDic d kvs).G s.heap) : FS (C.withDic d kvs) M Ch nm sn n env σ s :=
  ⟨f.kind, f.names, f.gl, f.bl, g, f.t, f.tb, f.al, fun a ha => ⟨(f.sub a ha).1, fun z => z.elim (f.sub a ha).2 fun e => hd (e ▸ ha)⟩, f.len, f.loc, f.vals, f.inj, f.wr, f.one, f.ml, f.nd, f.wk, f.pl, f.cm⟩

theorem dict_pair (hr : RM A C.d) {kp p : Nat} {k : Str} {x : X} {n' : Bool} {z : Str} (hw : wfX nm sn x = true) (hv : ev C.K x false σ = some (.str n' z)) (f : FS C M Ch nm sn n env σ s) {rest : List (Sem Value × Sem Value)} (Q : List (Value × Value) → Shared → Prop) (E : Value → Shared → Prop)
    (h : ∀ t t' s₂ M₂, M.le M₂ → Tb M₂ s₂.toks → AdvE s s₂ → wpAny (model prog w) A (evalPairs rest) (fun vs s₃ => Q ((.str k t, .str z t') :: vs) s₃) E s₂) :
    wpAny (model prog w) A (evalPairs ((eval (deX nm (.cstr kp k)) env, do let y ← eval (deX nm x) env; standAt (ps p); pure y) :: rest)) Q E s := by
  refine evalPairs_cons ((ev_ok hr (.cstr kp k) nm sn n M Ch env σ s rfl f).1 _ rfl _ _ fun kv s₁ M₁ g₁ t₁ a₁ r₁ => ?_)
  obtain ⟨t, rfl, _⟩ := r₁
  refine wpAny_bind ((ev_ok hr x nm sn n M₁ Ch env σ s₁ hw (f.adv g₁ t₁ a₁)).1 _ hv _ _ fun xv s₂ M₂ g₂ t₂ a₂ r₂ => wpAny_bind (wpAny_standAt (wpAny_pure ?_)))
  obtain ⟨t', rfl, _⟩ := r₂
  exact h t t' s₂ M₂ (g₁.trans g₂) t₂ (a₁.trans a₂)

theorem dict_ok (hr : RM A C.d) {p p1 p2 p3 : Nat} {k1 k2 k3 : Str} {x1 x2 x3 : X} {n1 n2 n3 : Bool} {z1 z2 z3 : Str} (h12 : k1 ≠ k2) (h13 : k1 ≠ k3) (h23 : k2 ≠ k3)
    (w1 : wfX nm sn x1 = true) (w2 : wfX nm sn x2 = true) (w3 : wfX nm sn x3 = true) (v1 : ev C.K x1 false σ = some (.str n1 z1)) (v2 : ev C.K x2 false σ = some (.str n2 z2)) (v3 : ev C.K x3 false σ = some (.str n3 z3))
    (f : FS C M Ch nm sn n env σ s) (Q E : Value → Shared → Prop)
    (h : ∀ d s' M', M.le M' → Tb M' s'.toks → AdvE s s' → s.heap.get? d = none → (∃ t1 t2 t3, s'.heap.DictOf (strKind prog w) d [(k1, .str z1 t1), (k2, .str z2 t2), (k3, .str z3 t3)]) → Q (.ref d) s') :
    wpAny (model prog w) A (eval (deX nm (.dict p [(p1, k1), (p2, k2), (p3, k3)] (.cons x1 (.cons x2 (.cons x3 .nil))))) env) Q E s := by
  refine wpAny_Dict_pairs (knd := strKind prog w) (pairs := [(eval (deX nm (.cstr p1 k1)) env, do let y ← eval (deX nm x1) env; standAt (ps p); pure y), (eval (deX nm (.cstr p2 k2)) env, do let y ← eval (deX nm x2) env; standAt (ps p); pure y), (eval (deX nm (.cstr p3 k3)) env, do let y ← eval (deX nm x3) env; standAt (ps p); pure y)]) rfl (by simp) (by simp) ?_
  have hfr : s.heap.get? s.heap.objs.size = none := fresh_none _ (Nat.le_refl _)
  have a0 : AdvE s { s with heap := s.heap.push { cls := .type "dict", data := .dict #[] } } := AdvE.push
  have f0 := f.adv (M' := M) .refl (f.tb.mono a0.toks) a0
  have hd0 : (s.heap.push { cls := .type "dict", data := .dict #[] }).DictOf (strKind prog w) s.heap.objs.size [] := Heap.DictOf.new _
  refine dict_pair hr w1 v1 f0 _ _ fun t t1 s₁ M₁ g₁ b₁ a₁ => ?_
  have f1 := f0.adv g₁ b₁ a₁
  refine dict_pair hr w2 v2 f1 _ _ fun t' t2 s₂ M₂ g₂ b₂ a₂ => ?_
  have f2 := f1.adv g₂ b₂ a₂
  refine dict_pair hr w3 v3 f2 _ _ fun t'' t3 s₃ M₃ g₃ b₃ a₃ => evalPairs_nil ?_
  have a : AdvE s s₃ := ((a0.trans a₁).trans a₂).trans a₃
  refine ⟨[(k1, .str z1 t1), (k2, .str z2 t2), (k3, .str z3 t3)], ⟨strKind_is .., rfl, strKind_is .., rfl, strKind_is .., rfl, trivial⟩, hd0.keep ((a₁.trans a₂).trans a₃).st, fun h' hm hs => ?_⟩
  rw [merged_nil_of_nodup _ (by simp [h12, h13, h23])] at hm
  have hne : ∀ b o, s.heap.get? b = some o → b ≠ s.heap.objs.size := fun b o e z => by rw [z, hfr] at e; cases e
  refine h _ _ M₃ ((g₁.trans g₂).trans g₃) (b₃.mono (Nat.le_add_right _ _)) ⟨fun b o _ e => (hs.2 b (hne b o e)).trans (a.keep b o id e), fun b o e => ⟨o, (hs.2 b (hne b o e)).trans (a.keep b o id e)⟩, a.gens, a.gsz, a.bare, a.os, Nat.le_trans a.toks (Nat.le_add_right _ _)⟩ hfr ⟨t1, t2, t3, hm⟩

theorem top_dict (hr : RM A C.d) {p q i p' p1 p2 p3 : Nat} {k1 k2 k3 : Str} {x1 x2 x3 : X} {n1 n2 n3 : Bool} {z1 z2 z3 : Str} {xs : SL} {v : V} (h12 : k1 ≠ k2) (h13 : k1 ≠ k3) (h23 : k2 ≠ k3)
    (w1 : wfX nm sn x1 = true) (w2 : wfX nm sn x2 = true) (w3 : wfX nm sn x3 = true) (v1 : ev C.K x1 false σ = some (.str n1 z1)) (v2 : ev C.K x2 false σ = some (.str n2 z2)) (v3 : ev C.K x3 false σ = some (.str n3 z3))
    (hi : i < nm.length) (hxs : wfT nm sn xs = true) (f : FS C M Ch nm sn nm.length env σ s)
    (hrun : ∀ d, ∃ σ', exL (C.K.withDic d [(k1, z1), (k2, z2), (k3, z3)]) xs (σ.set i (some (.fn d))) = some (.ret v, σ')) (Q : Flow → Shared → Prop) (E : Value → Shared → Prop)
    (h : ∀ f s' M', (∀ t u, M.τ t = some u → M'.τ t = some u) → Tb M' s'.toks → (∀ b, M.m b → M'.m b ∨ Ch b) → Adv Ch s.gens.size s s' → FlR M' s'.heap (.ret v) f → Q f s') :
    wpAny (model prog w) A (execs (deSL nm (.cons (.asg p q i (.dict p' [(p1, k1), (p2, k2), (p3, k3)] (.cons x1 (.cons x2 (.cons x3 .nil))))) xs)) env) Q E s := by
  have hsw := swB_ok (nm := nm) (sn := sn) (env := env) (q := q) (i := i) (line := (ps p).line) (.dict p' [(p1, k1), (p2, k2), (p3, k3)] (.cons x1 (.cons x2 (.cons x3 .nil)))) f.kind f.names
  refine wpAny_execs_cons (wpAny_Assign_Name (dict_ok hr h12 h13 h23 w1 w2 w3 v1 v2 v3 f _ _ fun d s₁ M₁ g₁ b₁ a₁ hfr hd => ?_) hsw)
  have f1 := f.adv g₁ b₁ a₁
  refine putV_ok f1 (i := i) (v := .fn d) (x := .ref d) (σ' := σ.set i (some (.fn d))) ?_ rfl _ _ fun s₂ a₂ f2 => ?_
  · unfold putV
    rw [if_pos]
    simp [f.len, hi, V.plain]
  have hCd : ¬ Ch d := fun z => by
    obtain ⟨o, ho⟩ := f.al d (f.sub d z).1
    rw [hfr] at ho; cases ho
  obtain ⟨t1, t2, t3, hd⟩ := hd
  have g2 : (C.withDic d [(k1, z1), (k2, z2), (k3, z3)]).G s₂.heap := by
    refine ⟨f2.g, _, dictOf_stay hd fun o e => a₂.keep d o hCd e, fun k z e => ?_⟩
    unfold valueAt
    simp only [List.lookup] at e
    simp only [List.find?]
    split at e
    · rename_i hk; cases e
      have := beq_iff_eq.mp hk; subst this
      exact ⟨t1, by simp⟩
    · rename_i hk1
      have n1 : ¬ k1 = k := fun z => by rw [z] at hk1; simp at hk1
      split at e
      · rename_i hk; cases e
        have := beq_iff_eq.mp hk; subst this
        exact ⟨t2, by simp [n1]⟩
      · rename_i hk2
        have n2 : ¬ k2 = k := fun z => by rw [z] at hk2; simp at hk2
        split at e
        · rename_i hk; cases e
          have := beq_iff_eq.mp hk; subst this
          exact ⟨t3, by simp [n1, n2]⟩
        · cases e
  obtain ⟨σ', hx⟩ := hrun d
  refine top_ok (C := C.withDic d [(k1, z1), (k2, z2), (k3, z3)]) hr xs hxs M₁ Ch env _ s₂ (f2.withDic hCd g2) _ hx _ _ fun f' s₃ M₃ τ₃ t₃ m₃ a₃ hf => ?_
  exact h f' s₃ M₃ (fun t u e => τ₃ t u (g₁.τ t u e)) t₃ (fun b hb => m₃ b (by rw [g₁.m]; exact hb)) (Adv.trans (advC a₁ a₂) a₃ (advC a₁ a₂).gsz fun x hx => Or.inl hx) hf

end Mine

namespace Mine
open PySem PySem.W PySem.Calls PyProof.Rows

noncomputable def sn_escape_cdata : Nms := [("text", .local), ("TypeError", .globalImplicit), ("AttributeError", .globalImplicit), ("_raise_serialization_error", .globalImplicit)]
noncomputable def sn_escape_attrib : Nms := [("text", .local), ("TypeError", .globalImplicit), ("AttributeError", .globalImplicit), ("_raise_serialization_error", .globalImplicit)]
noncomputable def sn_escape_attrib_html : Nms := [("text", .local), ("TypeError", .globalImplicit), ("AttributeError", .globalImplicit), ("_raise_serialization_error", .globalImplicit)]
noncomputable def sn_escape_cdata_c14n : Nms := [("text", .local), ("TypeError", .globalImplicit), ("AttributeError", .globalImplicit), ("_raise_serialization_error", .globalImplicit)]
noncomputable def sn_escape_attrib_c14n : Nms := [("text", .local), ("TypeError", .globalImplicit), ("AttributeError", .globalImplicit), ("_raise_serialization_error", .globalImplicit)]
noncomputable def sn_ellipsis_match : Nms := [("want", .local), ("got", .local), ("ws", .local), ("startpos", .local), ("endpos", .local), ("w", .local), ("ELLIPSIS_MARKER", .globalImplicit), ("len", .globalImplicit)]
noncomputable def sn_strip_quoted_realnames : Nms := [("addr", .local), ("start", .local), ("open_pos", .local), ("result", .local), ("pos", .local), ("ch", .local), ("_iter_escaped_chars", .globalImplicit), ("len", .globalImplicit)]
noncomputable def sn_check_parenthesis : Nms := [("addr", .local), ("opens", .local), ("pos", .local), ("ch", .local), ("_strip_quoted_realnames", .globalImplicit), ("_iter_escaped_chars", .globalImplicit)]
noncomputable def snlt : Nms := [("a", .local), ("b", .local)]
noncomputable def snsub : Nms := [("a", .local), ("b", .local)]
noncomputable def sncontains : Nms := [("a", .local), ("b", .local)]
noncomputable def snindexOf : Nms := [("a", .local), ("b", .local), ("i", .local), ("j", .local), ("enumerate", .globalImplicit), ("ValueError", .globalImplicit)]
noncomputable def sn_law_written : Nms := [("which", .local), ("text", .local), ("_escape_cdata", .globalImplicit), ("_escape_attrib", .globalImplicit), ("_escape_attrib_html", .globalImplicit), ("_escape_cdata_c14n", .globalImplicit), ("_escape_attrib_c14n", .globalImplicit)]
noncomputable def sn_law_spelled : Nms := [("which", .local), ("name", .local), ("due", .cell)]
noncomputable def sn_law_names : Nms := [("keys", .local), ("names", .local), ("key", .local), ("name", .local), ("contains", .globalImplicit), ("lt", .globalImplicit), ("indexOf", .globalImplicit)]
noncomputable def sn_law_side : Nms := [("ranks", .cell), ("u", .local), ("v", .local), ("low", .cell), ("high", .cell), ("min", .globalImplicit), ("max", .globalImplicit), ("range", .globalImplicit)]
noncomputable def sn_law_ways_are_told : Nms := [("which", .cell), ("names", .cell), ("written", .local), ("sides", .cell), ("twice", .local), ("u", .cell), ("closing", .local), ("sign", .local), ("leads", .local), ("v", .cell), ("lead", .local), ("below", .local), ("between", .local), ("_law_written", .globalImplicit), ("range", .globalImplicit), ("_ellipsis_match", .globalImplicit)]
noncomputable def sn_law_row_is_told : Nms := [("names", .local), ("ranks", .cell), ("sides", .cell), ("inside", .cell), ("spot", .cell), ("hidden", .cell), ("row", .cell), ("opens", .cell), ("closes", .cell), ("u", .cell), ("held", .cell), ("ahead", .local), ("due", .local), ("place", .local), ("units", .local), ("mates", .local), ("size", .local), ("whole", .local), ("sorted", .globalImplicit), ("range", .globalImplicit), ("sub", .globalImplicit), ("len", .globalImplicit), ("min", .globalImplicit), ("max", .globalImplicit), ("_check_parenthesis", .globalImplicit)]
noncomputable def snlaw : Nms := [("script", .cell), ("keys", .cell), ("total", .local), ("which", .cell), ("rest", .local), ("spot", .local), ("hidden", .local), ("names", .local), ("kind", .cell), ("written", .local), ("ranks", .cell), ("sides", .local), ("enumerate", .globalImplicit), ("sum", .globalImplicit), ("_law_names", .globalImplicit), ("range", .globalImplicit), ("_law_ways_are_told", .globalImplicit), ("_law_row_is_told", .globalImplicit)]

theorem ok_escape_cdata : okFn nm_escape_cdata sn_escape_cdata = true := by decide +kernel
theorem wf_escape_cdata : wfT nm_escape_cdata sn_escape_cdata b_escape_cdata = true := by decide +kernel
theorem ok_escape_attrib : okFn nm_escape_attrib sn_escape_attrib = true := by decide +kernel
theorem wf_escape_attrib : wfT nm_escape_attrib sn_escape_attrib b_escape_attrib = true := by decide +kernel
theorem ok_escape_attrib_html : okFn nm_escape_attrib_html sn_escape_attrib_html = true := by decide +kernel
theorem wf_escape_attrib_html : wfT nm_escape_attrib_html sn_escape_attrib_html b_escape_attrib_html = true := by decide +kernel
theorem ok_escape_cdata_c14n : okFn nm_escape_cdata_c14n sn_escape_cdata_c14n = true := by decide +kernel
theorem wf_escape_cdata_c14n : wfT nm_escape_cdata_c14n sn_escape_cdata_c14n b_escape_cdata_c14n = true := by decide +kernel
theorem ok_escape_attrib_c14n : okFn nm_escape_attrib_c14n sn_escape_attrib_c14n = true := by decide +kernel
theorem wf_escape_attrib_c14n : wfT nm_escape_attrib_c14n sn_escape_attrib_c14n b_escape_attrib_c14n = true := by decide +kernel
theorem ok_ellipsis_match : okFn nm_ellipsis_match sn_ellipsis_match = true := by decide +kernel
theorem wf_ellipsis_match : wfT nm_ellipsis_match sn_ellipsis_match b_ellipsis_match = true := by decide +kernel
theorem ok_strip_quoted_realnames : okFn nm_strip_quoted_realnames sn_strip_quoted_realnames = true := by decide +kernel
theorem wf_strip_quoted_realnames : wfT nm_strip_quoted_realnames sn_strip_quoted_realnames b_strip_quoted_realnames = true := by decide +kernel
theorem ok_check_parenthesis : okFn nm_check_parenthesis sn_check_parenthesis = true := by decide +kernel
theorem wf_check_parenthesis : wfT nm_check_parenthesis sn_check_parenthesis b_check_parenthesis = true := by decide +kernel
theorem oklt : okFn nmlt snlt = true := by decide +kernel
theorem wflt : wfT nmlt snlt blt = true := by decide +kernel
theorem oksub : okFn nmsub snsub = true := by decide +kernel
theorem wfsub : wfT nmsub snsub bsub = true := by decide +kernel
theorem okcontains : okFn nmcontains sncontains = true := by decide +kernel
theorem wfcontains : wfT nmcontains sncontains bcontains = true := by decide +kernel
theorem okindexOf : okFn nmindexOf snindexOf = true := by decide +kernel
theorem wfindexOf : wfT nmindexOf snindexOf bindexOf = true := by decide +kernel
theorem ok_law_written : okFn nm_law_written sn_law_written = true := by decide +kernel
theorem wf_law_written : wfT nm_law_written sn_law_written b_law_written = true := by decide +kernel
theorem ok_law_spelled : okFn nm_law_spelled sn_law_spelled = true := by decide +kernel
theorem ok_law_names : okFn nm_law_names sn_law_names = true := by decide +kernel
theorem wf_law_names : wfT nm_law_names sn_law_names b_law_names = true := by decide +kernel
theorem ok_law_side : okFn nm_law_side sn_law_side = true := by decide +kernel
theorem wf_law_side : wfT nm_law_side sn_law_side b_law_side = true := by decide +kernel
theorem ok_law_ways_are_told : okFn nm_law_ways_are_told sn_law_ways_are_told = true := by decide +kernel
theorem wf_law_ways_are_told : wfT nm_law_ways_are_told sn_law_ways_are_told b_law_ways_are_told = true := by decide +kernel
theorem ok_law_row_is_told : okFn nm_law_row_is_told sn_law_row_is_told = true := by decide +kernel
theorem wf_law_row_is_told : wfT nm_law_row_is_told sn_law_row_is_told b_law_row_is_told = true := by decide +kernel
theorem oklaw : okFn nmlaw snlaw = true := by decide +kernel
theorem wflaw : wfT nmlaw snlaw blaw = true := by decide +kernel

end Mine

namespace Mine
open PySem PySem.W PySem.Calls PyProof.Rows

noncomputable abbrev PW : Program := PySem.Challenge.pw_wr0034_01
noncomputable abbrev Scopes : List DefRec := recsOf PW

/-- the heap at the law's start, and what is known of it -/
structure Sta (w : World) (h₀ : Heap) where
  mg : Str → Option Value
  mb : Str → Option Value
  g : h₀.Ns mainGlobals mg
  b : h₀.Ns builtinsNs mb
  nolimit : h₀.NoLimit
  fn : ∀ d ∈ recsOf PW, ∃ a o pm code doc, mg d.name = some (.ref a) ∧ h₀.get? a = some o ∧ o.data = .func (docDef d.name d.params d.body d.scope pm code doc) ∧ h₀.CodeRec code d.name
  ell : ∃ v, mg "ELLIPSIS_MARKER" = some v ∧ ∀ h' : Heap, Reads h' v (.str "...") []
  free : ∀ id, id ∈ (["len", "min", "max", "sum", "sorted", "range", "enumerate"] : List Str) → mg id = none
  builtins : ∀ x : Str, x ≠ "__name__" → mb x = bootBuiltins x
  share : ∃ mc, h₀.Ns cStatics mc ∧ mc sharingNotToldKey = none

noncomputable def K0 : Kx := { glob := fun s => if s == ("ELLIPSIS_MARKER" : Str) then some (.str false "...") else none, F := fun _ _ => none, gen := fun _ _ => none, dic := fun _ => [] }

theorem blt0 {w : World} {h₀ : Heap} (B : Sta w h₀) : ∀ id, id ∈ (["len", "min", "max", "sum", "sorted"] : List Str) → B.mb id = some (.builtin (biName id)) := by
  intro id hid
  rw [B.builtins id (by revert id; decide +kernel)]
  revert id; decide +kernel
theorem typ0 {w : World} {h₀ : Heap} (B : Sta w h₀) : ∀ id, id ∈ (["range", "enumerate"] : List Str) → B.mb id = some (.type (if id == ("range" : Str) then "range" else "enumerate")) := by
  intro id hid
  rw [B.builtins id (by revert id; decide +kernel)]
  revert id; decide +kernel

theorem in1 : ∀ id, id ∈ (["len", "min", "max", "sum", "sorted"] : List Str) → id ∈ (["len", "min", "max", "sum", "sorted", "range", "enumerate"] : List Str) := by decide +kernel
theorem in2 : ∀ id, id ∈ (["range", "enumerate"] : List Str) → id ∈ (["len", "min", "max", "sum", "sorted", "range", "enumerate"] : List Str) := by decide +kernel

noncomputable def C0 {w : World} {h₀ : Heap} (B : Sta w h₀) (d : Nat) : Cx PW w where
  K := K0
  Old b := ∃ o, h₀.get? b = some o
  gl := mainGlobals
  bl := builtinsNs
  d := d
  G h := St h₀ h
  stay h h' g hk := fun b o e => hk b o ⟨o, e⟩ (g b o e)
  live h g b hb := let ⟨o, e⟩ := hb; ⟨o, g b o e⟩
  share h g := let ⟨mc, hn, e⟩ := B.share; ⟨mc, hn.keeps g, e⟩
  gname id v e M A env s h1 h2 g := by
    have e' : (if id == ("ELLIPSIS_MARKER" : Str) then some (V.str false "...") else none) = some v := e
    · obtain ⟨hid, e'⟩ := if_some e'
      cases e'
      have := beq_iff_eq.mp hid
      subst this
      obtain ⟨x, hx, hr⟩ := B.ell
      intro Q E h
      have := hr s.heap
      cases this
      exact loadGlobal_global (by rw [h1]; exact B.g.keeps g) hx (h _ _ Adv.refl ⟨_, rfl, fun z => nomatch z⟩)
  bi id hid A env s Q E h1 h2 g h := loadGlobal_builtin (by rw [h1]; exact B.g.keeps g) (B.free id (in1 id hid)) (by rw [h2]; exact B.b.keeps g) (blt0 B id hid) h
  ty id hid A env s Q E h1 h2 g h := loadGlobal_builtin (by rw [h1]; exact B.g.keeps g) (B.free id (in2 id hid)) (by rw [h2]; exact B.b.keeps g) (typ0 B id hid) h
  fn id vs v e := nomatch e
  nolim h g := B.nolimit.keeps g
  dic a k z e := by cases e
  gen id v vs e := nomatch e

end Mine

namespace Mine
open PySem PySem.W PySem.Calls PyProof.Rows

variable {prog : Program} {w : World}

theorem RM.mono {A : Around} {d d' : Nat} (r : RM A d') (h : d ≤ d') : RM A d :=
  ⟨r.handled, by have := r.depth; lia, by have := r.units; lia⟩

/-- what is asked of a function's place -/
noncomputable abbrev FnC (C : Cx prog w) (d : Nat) (F : Str) (vs : List V) (v : V) : Prop := ∃ a, (∀ h, C.G h → ∃ o fd, h.get? a = some o ∧ o.data = .func fd) ∧
    (∀ A env (s : Shared) (Q E : Value → Shared → Prop), env.globals = C.gl → env.builtins = C.bl → C.G s.heap → Q (.ref a) s → wpAny (model prog w) A (loadGlobal env F) Q E s) ∧
    (∀ A (s : Shared) (M : Gh) xs, RM A d → plains vs = true → C.G s.heap → 1 ≤ s.toks → Tb M s.toks → Al M.m s.heap → VRs M s.heap vs xs → EvAt prog w A M (call (.ref a) xs) v s)

noncomputable abbrev GnC (C : Cx prog w) (d : Nat) (id : Str) (v : V) (vs : List V) : Prop := ∃ a, (∀ h, C.G h → ∃ o fd, h.get? a = some o ∧ o.data = .func fd) ∧
    (∀ A env (s : Shared) (Q E : Value → Shared → Prop), env.globals = C.gl → env.builtins = C.bl → C.G s.heap → Q (.ref a) s → wpAny (model prog w) A (loadGlobal env id) Q E s) ∧
    (∀ A (s : Shared) (M : Gh) x, RM A d → C.G s.heap → 1 ≤ s.toks → Tb M s.toks → Al M.m s.heap → VR M s.heap v x → ∀ (Q E : Value → Shared → Prop),
      (∀ itv W s', GenMade prog w A C.G false vs M s itv W s' → Q itv s') → wpAny (model prog w) A (call (.ref a) [x]) (fun r s₁ => wpAny (model prog w) A (pyIter r) Q E s₁) E s)

/-- more functions known -/
noncomputable def Cx.more (C : Cx prog w) (d : Nat) (hd : C.d ≤ d) (F' : Str → List V → Option V) (G' : Str → V → Option (List V)) (hF : ∀ F vs v, F' F vs = some v → FnC C d F vs v) (hG : ∀ F v vs, G' F v = some vs → GnC C d F v vs) : Cx prog w :=
  { C with
    K := { C.K with F := fun id vs => match F' id vs with | some v => some v | none => C.K.F id vs, gen := fun id v => match G' id v with | some v => some v | none => C.K.gen id v }
    d := d
    fn := fun id vs v e => by
      have e' : (match F' id vs with | some v => some v | none => C.K.F id vs) = some v := e
      split at e'
      · rename_i u hu
        cases e'
        exact hF id vs v hu
      · obtain ⟨a, h1, h2, h3⟩ := C.fn id vs v e'
        exact ⟨a, h1, h2, fun A s M xs hr => h3 A s M xs (hr.mono hd)⟩
    gen := fun id v vs e => by
      have e' : (match G' id v with | some v => some v | none => C.K.gen id v) = some vs := e
      split at e'
      · rename_i u hu
        cases e'
        exact hG id v vs hu
      · obtain ⟨a, h1, h2, h3⟩ := C.gen id v vs e'
        exact ⟨a, h1, h2, fun A s M x hr => h3 A s M x (hr.mono hd)⟩ }

/-- a context of the claim -/
structure On {h₀ : Heap} (B : Sta w h₀) (C : Cx PW w) : Prop where
  G : ∀ h, C.G h → St h₀ h
  gl : C.gl = mainGlobals
  bl : C.bl = builtinsNs

noncomputable def noRec : DefRec := ⟨"", { posonlyargs := [], args := [], vararg := none, kwonlyargs := [], kw_defaults := [], kwarg := none, defaults := [] }, [], { kind := .function, names := [], isGenerator := false, isCoroutine := false }, ⟨0, 0, 0, 0⟩⟩
noncomputable def dr (F : Str) : DefRec := ((recsOf PW).find? fun d => d.name == F).getD noRec
theorem dr_mem {F : Str} (h : (recsOf PW).any (fun d => d.name == F) = true) : dr F ∈ recsOf PW ∧ (dr F).name = F := by
  unfold dr
  obtain ⟨d, hd, hn⟩ := List.any_eq_true.mp h
  cases hf : (recsOf PW).find? fun d => d.name == F with
  | none => exact absurd hn (by simpa using List.find?_eq_none.mp hf d hd)
  | some d => exact ⟨List.mem_of_find?_eq_some hf, beq_iff_eq.mp (List.find?_some (p := fun d : DefRec => d.name == F) hf)⟩

theorem fnC_of {h₀ : Heap} (B : Sta w h₀) (C : Cx PW w) (O : On B C) {F : Str} {vs : List V} {v : V} {d : Nat} (h : (recsOf PW).any (fun d => d.name == F) = true)
    (k : ∀ (a : Addr) (fd : FuncData) pm code doc, fd = docDef (dr F).name (dr F).params (dr F).body (dr F).scope pm code doc → (∀ h, C.G h → ∃ o, h.get? a = some o ∧ o.data = .func fd ∧ h.CodeRec fd.code fd.qualname ∧ h.NoLimit) →
      ∀ A (s : Shared) (M : Gh) xs, RM A d → plains vs = true → C.G s.heap → 1 ≤ s.toks → Tb M s.toks → Al M.m s.heap → VRs M s.heap vs xs → EvAt PW w A M (call (.ref a) xs) v s) : FnC C d F vs v := by
  obtain ⟨hm, hn⟩ := dr_mem h
  obtain ⟨a, o, pm, code, doc, h1, h2, h3, h4⟩ := B.fn _ hm
  rw [hn] at h1
  refine ⟨a, fun h g => ⟨o, _, O.G h g a o h2, h3⟩, fun A env s Q E e1 e2 g hq => loadGlobal_global (by rw [e1, O.gl]; exact B.g.keeps (O.G _ g)) h1 hq, ?_⟩
  exact k a _ pm code doc rfl fun h g => ⟨o, O.G h g a o h2, h3, h4.keeps (O.G h g), C.nolim h g⟩

/-- a function of the program, from what its text computes -/
theorem fnC {h₀ : Heap} (B : Sta w h₀) (C : Cx PW w) (O : On B C) {F : Str} {nm : List Str} {sn : Nms} {b : SL} {vs : List V} {v : V} {σ' : Sto} (h : (recsOf PW).any (fun d => d.name == F) = true)
    (hf : okFn nm sn = true) (hn : (dr F).scope.names = sn) (hk : (dr F).scope.kind = .function) (hco : (dr F).scope.isCoroutine = false) (hgen : (dr F).scope.isGenerator = false) (hbody : (dr F).body = deSL nm b) (hwf : wfT nm sn b = true)
    (hbind : ∀ (pm code doc : Value) (xs : List Value), xs.length = vs.length → bindArgs (docDef (dr F).name (dr F).params (dr F).body (dr F).scope pm code doc) ⟨xs, []⟩ = pure (nm.zip xs))
    (hlen : vs.length ≤ nm.length) (hrun : exL C.K b (vs.map some ++ List.replicate (nm.length - vs.length) none) = some (.ret v, σ')) : FnC C (C.d + 1) F vs v :=
  fnC_of B C O h fun a fd pm code doc e hG => by
    subst e
    exact fun_ok C hf hn hk O.gl.symm O.bl.symm hco hgen rfl (congrArg FuncBody.stmts hbody) hwf (hbind pm code doc) hG hlen hrun

end Mine

namespace Mine
open PySem PySem.W PySem.Calls PyProof.Rows

variable {w : World}

/-- what is to be looked up of a function, once -/
structure FnF (F : Str) (nm : List Str) (sn : Nms) (b : SL) (k : Nat) : Prop where
  rc : (recsOf PW).any (fun d => d.name == F) = true
  nms : okFn nm sn = true
  names : (dr F).scope.names = sn
  kind : (dr F).scope.kind = .function
  co : (dr F).scope.isCoroutine = false
  gen : (dr F).scope.isGenerator = false
  body : (dr F).body = deSL nm b
  wf : wfT nm sn b = true
  bind : ∀ (pm code doc : Value) (xs : List Value), xs.length = k → bindArgs (docDef (dr F).name (dr F).params (dr F).body (dr F).scope pm code doc) ⟨xs, []⟩ = pure (nm.zip xs)
  len : k ≤ nm.length

theorem FnF.fnC {F nm sn b k} (f : FnF F nm sn b k) {h₀ : Heap} (B : Sta w h₀) (C : Cx PW w) (O : On B C) {vs : List V} {v : V} {σ' : Sto} (hl : vs.length = k)
    (hrun : exL C.K b (vs.map some ++ List.replicate (nm.length - vs.length) none) = some (.ret v, σ')) : FnC C (C.d + 1) F vs v :=
  Mine.fnC B C O f.rc f.nms f.names f.kind f.co f.gen f.body f.wf (by rw [hl]; exact f.bind) (by rw [hl]; exact f.len) hrun

theorem len1 {α : Type} {xs : List α} (h : xs.length = 1) : ∃ a, xs = [a] := by
  match xs, h with
  | [a], _ => exact ⟨a, rfl⟩
theorem len2 {α : Type} {xs : List α} (h : xs.length = 2) : ∃ a b, xs = [a, b] := by
  match xs, h with
  | [a, b], _ => exact ⟨a, b, rfl⟩
theorem len3 {α : Type} {xs : List α} (h : xs.length = 3) : ∃ a b c, xs = [a, b, c] := by
  match xs, h with
  | [a, b, c], _ => exact ⟨a, b, c, rfl⟩
theorem len4 {α : Type} {xs : List α} (h : xs.length = 4) : ∃ a b c d, xs = [a, b, c, d] := by
  match xs, h with
  | [a, b, c, d], _ => exact ⟨a, b, c, d, rfl⟩
theorem len6 {α : Type} {xs : List α} (h : xs.length = 6) : ∃ a b c d e f, xs = [a, b, c, d, e, f] := by
  match xs, h with
  | [a, b, c, d, e, f], _ => exact ⟨a, b, c, d, e, f, rfl⟩

theorem ff_escape_cdata : FnF "_escape_cdata" nm_escape_cdata sn_escape_cdata b_escape_cdata 1 :=
  ⟨by decide +kernel, ok_escape_cdata, rfl, rfl, rfl, rfl, rfl, wf_escape_cdata, fun pm code doc xs h => by obtain ⟨a, rfl⟩ := len1 h; rfl, by decide⟩
theorem ff_escape_attrib : FnF "_escape_attrib" nm_escape_attrib sn_escape_attrib b_escape_attrib 1 :=
  ⟨by decide +kernel, ok_escape_attrib, rfl, rfl, rfl, rfl, rfl, wf_escape_attrib, fun pm code doc xs h => by obtain ⟨a, rfl⟩ := len1 h; rfl, by decide⟩
theorem ff_escape_attrib_html : FnF "_escape_attrib_html" nm_escape_attrib_html sn_escape_attrib_html b_escape_attrib_html 1 :=
  ⟨by decide +kernel, ok_escape_attrib_html, rfl, rfl, rfl, rfl, rfl, wf_escape_attrib_html, fun pm code doc xs h => by obtain ⟨a, rfl⟩ := len1 h; rfl, by decide⟩
theorem ff_escape_cdata_c14n : FnF "_escape_cdata_c14n" nm_escape_cdata_c14n sn_escape_cdata_c14n b_escape_cdata_c14n 1 :=
  ⟨by decide +kernel, ok_escape_cdata_c14n, rfl, rfl, rfl, rfl, rfl, wf_escape_cdata_c14n, fun pm code doc xs h => by obtain ⟨a, rfl⟩ := len1 h; rfl, by decide⟩
theorem ff_escape_attrib_c14n : FnF "_escape_attrib_c14n" nm_escape_attrib_c14n sn_escape_attrib_c14n b_escape_attrib_c14n 1 :=
  ⟨by decide +kernel, ok_escape_attrib_c14n, rfl, rfl, rfl, rfl, rfl, wf_escape_attrib_c14n, fun pm code doc xs h => by obtain ⟨a, rfl⟩ := len1 h; rfl, by decide⟩
theorem ff_ellipsis_match : FnF "_ellipsis_match" nm_ellipsis_match sn_ellipsis_match b_ellipsis_match 2 :=
  ⟨by decide +kernel, ok_ellipsis_match, rfl, rfl, rfl, rfl, rfl, wf_ellipsis_match, fun pm code doc xs h => by obtain ⟨a, b, rfl⟩ := len2 h; rfl, by decide⟩
theorem ff_strip_quoted_realnames : FnF "_strip_quoted_realnames" nm_strip_quoted_realnames sn_strip_quoted_realnames b_strip_quoted_realnames 1 :=
  ⟨by decide +kernel, ok_strip_quoted_realnames, rfl, rfl, rfl, rfl, rfl, wf_strip_quoted_realnames, fun pm code doc xs h => by obtain ⟨a, rfl⟩ := len1 h; rfl, by decide⟩
theorem ff_check_parenthesis : FnF "_check_parenthesis" nm_check_parenthesis sn_check_parenthesis b_check_parenthesis 1 :=
  ⟨by decide +kernel, ok_check_parenthesis, rfl, rfl, rfl, rfl, rfl, wf_check_parenthesis, fun pm code doc xs h => by obtain ⟨a, rfl⟩ := len1 h; rfl, by decide⟩
theorem fflt : FnF "lt" nmlt snlt blt 2 :=
  ⟨by decide +kernel, oklt, rfl, rfl, rfl, rfl, rfl, wflt, fun pm code doc xs h => by obtain ⟨a, b, rfl⟩ := len2 h; rfl, by decide⟩
theorem ffsub : FnF "sub" nmsub snsub bsub 2 :=
  ⟨by decide +kernel, oksub, rfl, rfl, rfl, rfl, rfl, wfsub, fun pm code doc xs h => by obtain ⟨a, b, rfl⟩ := len2 h; rfl, by decide⟩
theorem ffcontains : FnF "contains" nmcontains sncontains bcontains 2 :=
  ⟨by decide +kernel, okcontains, rfl, rfl, rfl, rfl, rfl, wfcontains, fun pm code doc xs h => by obtain ⟨a, b, rfl⟩ := len2 h; rfl, by decide⟩
theorem ffindexOf : FnF "indexOf" nmindexOf snindexOf bindexOf 2 :=
  ⟨by decide +kernel, okindexOf, rfl, rfl, rfl, rfl, rfl, wfindexOf, fun pm code doc xs h => by obtain ⟨a, b, rfl⟩ := len2 h; rfl, by decide⟩
theorem ff_law_written : FnF "_law_written" nm_law_written sn_law_written b_law_written 2 :=
  ⟨by decide +kernel, ok_law_written, rfl, rfl, rfl, rfl, rfl, wf_law_written, fun pm code doc xs h => by obtain ⟨a, b, rfl⟩ := len2 h; rfl, by decide⟩
theorem ff_law_names : FnF "_law_names" nm_law_names sn_law_names b_law_names 1 :=
  ⟨by decide +kernel, ok_law_names, rfl, rfl, rfl, rfl, rfl, wf_law_names, fun pm code doc xs h => by obtain ⟨a, rfl⟩ := len1 h; rfl, by decide⟩
theorem ff_law_side : FnF "_law_side" nm_law_side sn_law_side b_law_side 3 :=
  ⟨by decide +kernel, ok_law_side, rfl, rfl, rfl, rfl, rfl, wf_law_side, fun pm code doc xs h => by obtain ⟨a, b, c, rfl⟩ := len3 h; rfl, by decide⟩
theorem ff_law_ways_are_told : FnF "_law_ways_are_told" nm_law_ways_are_told sn_law_ways_are_told b_law_ways_are_told 4 :=
  ⟨by decide +kernel, ok_law_ways_are_told, rfl, rfl, rfl, rfl, rfl, wf_law_ways_are_told, fun pm code doc xs h => by obtain ⟨a, b, c, d, rfl⟩ := len4 h; rfl, by decide⟩
theorem ff_law_row_is_told : FnF "_law_row_is_told" nm_law_row_is_told sn_law_row_is_told b_law_row_is_told 6 :=
  ⟨by decide +kernel, ok_law_row_is_told, rfl, rfl, rfl, rfl, rfl, wf_law_row_is_told, fun pm code doc xs h => by obtain ⟨a, b, c, d, e, f, rfl⟩ := len6 h; rfl, by decide⟩
theorem fflaw : FnF "law" nmlaw snlaw blaw 1 :=
  ⟨by decide +kernel, oklaw, rfl, rfl, rfl, rfl, rfl, wflaw, fun pm code doc xs h => by obtain ⟨a, rfl⟩ := len1 h; rfl, by decide⟩

end Mine

namespace Mine
open PySem PySem.W PySem.Calls PyProof.Rows

variable {w : World}

/-- what a function's text computes -/
noncomputable def runF (K : Kx) (nm : List Str) (b : SL) (vs : List V) : Option V := match exL K b (vs.map some ++ List.replicate (nm.length - vs.length) none) with
  | some (.ret v, _) => some v
  | _ => none

theorem FnC.mono {prog : Program} {C : Cx prog w} {d d' : Nat} {F : Str} {vs : List V} {v : V} (h : FnC C d F vs v) (hd : d ≤ d') : FnC C d' F vs v :=
  let ⟨a, h1, h2, h3⟩ := h; ⟨a, h1, h2, fun A s M xs hr => h3 A s M xs (hr.mono hd)⟩

theorem FnF.run {F nm sn b k} (f : FnF F nm sn b k) {h₀ : Heap} (B : Sta w h₀) (C : Cx PW w) (O : On B C) {vs : List V} {v : V} (hl : vs.length = k) (h : runF C.K nm b vs = some v) : FnC C (C.d + 1) F vs v := by
  unfold runF at h
  split at h
  · rename_i u σ' hx
    cases h
    exact f.fnC B C O hl hx
  · cases h

noncomputable abbrev Ent := Str × List Str × SL × Nat
noncomputable def tabF (K : Kx) : List Ent → Str → List V → Option V
  | [], _, _ => none
  | (F, nm, b, k) :: L, id, vs => if id == F then (if vs.length == k then runF K nm b vs else none) else tabF K L id vs
noncomputable def EntOK (e : Ent) : Prop := ∃ sn, FnF e.1 e.2.1 sn e.2.2.1 e.2.2.2

theorem tab_ok {h₀ : Heap} (B : Sta w h₀) (C : Cx PW w) (O : On B C) : ∀ (L : List Ent), (∀ e ∈ L, EntOK e) → ∀ F vs v, tabF C.K L F vs = some v → FnC C (C.d + 1) F vs v
  | [], _, F, vs, v, h => by cases h
  | (F', nm, b, k) :: L, hL, F, vs, v, h => by
    unfold tabF at h
    split at h
    · rename_i hF
      have := beq_iff_eq.mp hF
      subst this
      split at h
      · rename_i hk
        obtain ⟨sn, f⟩ := hL _ (List.mem_cons_self ..)
        exact f.run B C O (beq_iff_eq.mp hk) h
      · cases h
    · exact tab_ok B C O L (fun e he => hL e (List.mem_cons_of_mem _ he)) F vs v h

noncomputable def L1 : List Ent := [("_escape_cdata", nm_escape_cdata, b_escape_cdata, 1), ("_escape_attrib", nm_escape_attrib, b_escape_attrib, 1), ("_escape_attrib_html", nm_escape_attrib_html, b_escape_attrib_html, 1), ("_escape_cdata_c14n", nm_escape_cdata_c14n, b_escape_cdata_c14n, 1), ("_escape_attrib_c14n", nm_escape_attrib_c14n, b_escape_attrib_c14n, 1), ("_ellipsis_match", nm_ellipsis_match, b_ellipsis_match, 2), ("lt", nmlt, blt, 2), ("sub", nmsub, bsub, 2), ("contains", nmcontains, bcontains, 2), ("indexOf", nmindexOf, bindexOf, 2), ("_law_side", nm_law_side, b_law_side, 3)]
noncomputable def L2 : List Ent := [("_law_written", nm_law_written, b_law_written, 2), ("_law_names", nm_law_names, b_law_names, 1), ("_strip_quoted_realnames", nm_strip_quoted_realnames, b_strip_quoted_realnames, 1)]
noncomputable def L3 : List Ent := [("_check_parenthesis", nm_check_parenthesis, b_check_parenthesis, 1), ("_law_ways_are_told", nm_law_ways_are_told, b_law_ways_are_told, 4)]
noncomputable def L4 : List Ent := [("_law_row_is_told", nm_law_row_is_told, b_law_row_is_told, 6)]
theorem l1 : ∀ e ∈ L1, EntOK e := by
  intro e he
  simp only [L1, List.mem_cons, List.not_mem_nil, or_false] at he
  rcases he with rfl | rfl | rfl | rfl | rfl | rfl | rfl | rfl | rfl | rfl | rfl
  · exact ⟨_, ff_escape_cdata⟩
  · exact ⟨_, ff_escape_attrib⟩
  · exact ⟨_, ff_escape_attrib_html⟩
  · exact ⟨_, ff_escape_cdata_c14n⟩
  · exact ⟨_, ff_escape_attrib_c14n⟩
  · exact ⟨_, ff_ellipsis_match⟩
  · exact ⟨_, fflt⟩
  · exact ⟨_, ffsub⟩
  · exact ⟨_, ffcontains⟩
  · exact ⟨_, ffindexOf⟩
  · exact ⟨_, ff_law_side⟩
theorem l2 : ∀ e ∈ L2, EntOK e := by
  intro e he
  simp only [L2, List.mem_cons, List.not_mem_nil, or_false] at he
  rcases he with rfl | rfl | rfl
  · exact ⟨_, ff_law_written⟩
  · exact ⟨_, ff_law_names⟩
  · exact ⟨_, ff_strip_quoted_realnames⟩
theorem l3 : ∀ e ∈ L3, EntOK e := by
  intro e he
  simp only [L3, List.mem_cons, List.not_mem_nil, or_false] at he
  rcases he with rfl | rfl
  · exact ⟨_, ff_check_parenthesis⟩
  · exact ⟨_, ff_law_ways_are_told⟩
theorem l4 : ∀ e ∈ L4, EntOK e := by
  intro e he
  simp only [L4, List.mem_cons, List.not_mem_nil, or_false] at he
  rcases he with rfl
  exact ⟨_, ff_law_row_is_told⟩

/-- the generator's layer -/
noncomputable def genG (id : Str) (v : V) : Option (List V) := if id == ("_iter_escaped_chars" : Str) then (match v with | .str n x => some (escV 0 false x.cps.toList) | _ => none) else none

theorem gen_at {h₀ : Heap} (B : Sta w h₀) (C : Cx PW w) (O : On B C) : ∀ F v vs, genG F v = some vs → GnC C (C.d + 2) F v vs := by
  intro F v vs h
  unfold genG at h
  split at h
  · rename_i hF
    have := beq_iff_eq.mp hF
    subst this
    split at h
    · rename_i n x
      cases h
      obtain ⟨hm, hn⟩ := dr_mem (F := "_iter_escaped_chars") (by decide +kernel)
      obtain ⟨a, o, pm, code, doc, h1, h2, h3, h4⟩ := B.fn _ hm
      rw [hn] at h1
      refine ⟨a, fun h g => ⟨o, _, O.G h g a o h2, h3⟩, fun A env s Q E e1 e2 g hq => loadGlobal_global (by rw [e1, O.gl]; exact B.g.keeps (O.G _ g)) h1 hq, ?_⟩
      exact gen_ok C (a := a) (fd := docDef (dr "_iter_escaped_chars").name (dr "_iter_escaped_chars").params (dr "_iter_escaped_chars").body (dr "_iter_escaped_chars").scope pm code doc) rfl rfl O.gl.symm O.bl.symm rfl rfl rfl rfl (fun x => rfl) (fun h g => ⟨o, O.G h g a o h2, h3, h4.keeps (O.G h g), C.nolim h g⟩)
    · cases h
  · cases h

end Mine

namespace Mine
open PySem PySem.W PySem.Calls PyProof.Rows

variable {prog : Program} {w : World}

/-- a function whose body is walked in some other way -/
theorem fun_gen (C : Cx prog w) {a : Addr} {fd : FuncData} {nm : List Str} {sn : Nms} {b : SL} {vs : List V} {v : V} (hf : okFn nm sn = true) (hn : fd.scope.names = sn) (hk : fd.scope.kind = .function) (hgl : fd.globals = C.gl) (hbl : fd.builtins = C.bl)
    (hco : fd.scope.isCoroutine = false) (hgen : fd.scope.isGenerator = false) (hclo : fd.closure = []) (hbody : fd.body = .stmts (deSL nm b))
    (hbind : ∀ xs : List Value, xs.length = vs.length → bindArgs fd ⟨xs, []⟩ = pure (nm.zip xs))
    (hG : ∀ h, C.G h → ∃ o, h.get? a = some o ∧ o.data = .func fd ∧ h.CodeRec fd.code fd.qualname ∧ h.NoLimit)
    (hlen : vs.length ≤ nm.length)
    (hwalk : ∀ (A : Around) (M : Gh) (Ch : Pr) (env : Env) (s : Shared), RM A C.d → FS C M Ch nm sn nm.length env (vs.map some ++ List.replicate (nm.length - vs.length) none) s → ∀ (Q : Flow → Shared → Prop) (E : Value → Shared → Prop),
      (∀ f s' M', (∀ t u, M.τ t = some u → M'.τ t = some u) → Tb M' s'.toks → (∀ b, M.m b → M'.m b ∨ Ch b) → Adv Ch s.gens.size s s' → FlR M' s'.heap (.ret v) f → Q f s') → wpAny (model prog w) A (execs (deSL nm b) env) Q E s) :
    ∀ A (s : Shared) (M : Gh) xs, RM A (C.d + 1) → plains vs = true → C.G s.heap → 1 ≤ s.toks → Tb M s.toks → Al M.m s.heap → VRs M s.heap vs xs → EvAt prog w A M (call (.ref a) xs) v s := by
  intro A s M xs hr hp g h1 hb hal r Q E h
  obtain ⟨o, ho, hd, hcd, hlim⟩ := hG _ g
  have hfn := okFn_ok hf
  have hxl := VRs.length r
  refine wpAny_call (codeAny_call_function hr.d ho hd hco hgen hbody hcd ?_)
  rw [hbind xs hxl, hclo]
  refine wpAny_pure (wpAny_with_toks (Nat.le_refl s.toks) (wpAny_newFunctionEnv_cells hk ?_ fun env he s₁ x ht => ?_))
  · intro x hx
    obtain ⟨i, hi, hix⟩ := List.mem_iff_getElem.mp hx
    have hin : i < nm.length := by rw [List.length_zip] at hi; lia
    have e : x.1 = nmAt nm i := by
      rw [← hix, List.getElem_zip]
      unfold nmAt
      rw [List.getD_eq_getElem?_getD, List.getElem?_eq_getElem hin]; rfl
    rw [e, hn]
    rcases hfn.kd i hin with hl | ⟨hl, hm⟩
    · exact Or.inl hl
    · refine Or.inr ⟨hl, ?_⟩
      obtain ⟨c, hc, _⟩ := cellsFrom_own (id := nmAt nm i) (B₀ := 0) sn { s.heap with objs := (s.heap.push { cls := .type "frame", data := .dict #[] }).objs } [] (Or.inl hm) (Nat.zero_le _)
      have hz : (s.heap.push { cls := .type "frame", data := .dict #[] }).objs.size = s.heap.objs.size + 1 := Heap.size_push ..
      have hc' : (cellsFrom (s.heap.objs.size + 1) sn []).lookup (nmAt nm i) = some c := by rw [← hz]; exact hc
      rw [hc']; rfl
  subst he
  refine ⟨hlim.keeps x.toInCall.keep, codeAny_func ?_⟩
  obtain ⟨adv, Ch, hfr, f⟩ := FS.start (C := C) hfn hn hk hgl hbl (a := a) hlen g h1 hb hal hp r x ht
  refine hwalk _ _ Ch _ s₁ hr.deeper f _ _ fun ff s' M' τ' t' m' a' hfl => ?_
  obtain ⟨y, rfl, ry, py⟩ := hfl
  have hM : ∀ b, M.m b → M'.m b := fun b hb => by
    rcases m' b (Or.inl hb) with z | z
    · exact z
    · obtain ⟨o, ho⟩ := hal b hb
      rw [hfr b z] at ho; cases ho
  exact h y s' ⟨M.m, M'.τ⟩ ⟨rfl, τ'⟩ (fun t ht => t' t ht) (Adv.trans adv a' adv.gsz fun x hx => Or.inr (hfr x hx)) (VR.less (M' := ⟨M.m, M'.τ⟩) (fun b hb => Or.inl (hM b hb)) (fun _ _ e => e) py ry)

/-- what a name is due to be spelled as -/
noncomputable def dueOf (k : Int) : List (Str × Str) := [("&", "&amp;"), ("<", if k == 2 then "<" else "&lt;"), (">", if k == 4 then ">" else "&gt;")]
noncomputable def spellL (kv : List (Str × Str)) : List Nat → Option (List Str)
  | [] => some []
  | c :: cs => match kv.lookup ⟨#[c]⟩, spellL kv cs with
    | some y, some ys => some (y :: ys)
    | _, _ => none
noncomputable def spF (vs : List V) : Option V := match vs with
  | [.int k, .str _ x] => match spellL (dueOf k) x.cps.toList with
    | some ys => if x.length ≤ lim && decide ((ys.map (·.length)).sum + ys.length * Str.length "" ≤ lim) then some (.str false (Txt.join "" ys)) else none
    | none => none
  | _ => none

end Mine

namespace Mine
open PySem PySem.W PySem.Calls PyProof.Rows

variable {w : World}

theorem spell_loop {K : Kx} {d : Addr} {kv : List (Str × Str)} (hK : K.dic d = kv) {p p1 p2 p3 : Nat} : ∀ (cs : List Nat) (ys : List Str) (o : Option V), spellL kv cs = some ys →
    compL (putT 1 (.t1 p 0)) (evC K .none) (ev K (.idx p1 (.var p2 1) (.var p3 0)) false) (cs.map fun c => V.str false ⟨#[c]⟩) [o, some (.fn d)] = some (ys.map (V.str false))
  | [], ys, o, h => by cases h; rfl
  | c :: cs, ys, o, h => by
    unfold spellL at h
    split at h
    · rename_i y ys' h1 h2
      cases h
      have e : ev K (.idx p1 (.var p2 1) (.var p3 0)) false [some (.str false ⟨#[c]⟩), some (.fn d)] = some (.str false y) := by
        show ((K.dic d).lookup ⟨#[c]⟩).map (V.str false) = _
        rw [hK, h1]; rfl
      have ih := spell_loop hK (p := p) (p1 := p1) (p2 := p2) (p3 := p3) cs ys' (some (.str false ⟨#[c]⟩)) h2
      show (match some [some (V.str false ⟨#[c]⟩), some (.fn d)] with | none => none | some σ' => _) = _
      show (match ev K (.idx p1 (.var p2 1) (.var p3 0)) false [some (.str false ⟨#[c]⟩), some (.fn d)] with | none => none | some y => if y.plain then (compL (putT 1 (.t1 p 0)) (evC K .none) (ev K (.idx p1 (.var p2 1) (.var p3 0)) false) (cs.map fun c => V.str false ⟨#[c]⟩) [some (.str false ⟨#[c]⟩), some (.fn d)]).map (y :: ·) else none) = _
      rw [e, ih]
      rfl
    · cases h

theorem strsOf_map (ys : List Str) : strsOf (ys.map (V.str false)) = some ys := by
  induction ys with
  | nil => rfl
  | cons y ys ih => show (strsOf (ys.map (V.str false))).map (y :: ·) = _; rw [ih]; rfl

noncomputable def bSp : SL := (.cons (.ret 174004174048 (.meth 174011174048 174011174018 (.cstr 174011174013 "") "join" (.cons (.comp 174019174047 ⟨.function, [(".0", .local), ("sign", .local), ("due", .free)], false, false, []⟩ ["sign", "due"] [2] (.t1 174034174038 0) (.val (.var 174042174046 1)) .none (.idx 174020174029 (.var 174020174023 1) (.var 174024174028 0))) .nil)))
    .nil)

theorem sp_run {K : Kx} {d : Addr} {k : Int} {n : Bool} {x : Str} {v : V} (hK : K.dic d = dueOf k) (h : spF [.int k, .str n x] = some v) : exL K bSp [some (.int k), some (.str n x), some (.fn d)] = some (.ret v, [some (.int k), some (.str n x), some (.fn d)]) := by
  unfold spF at h
  simp only at h
  split at h
  · rename_i ys hy
    split at h
    · rename_i hc
      cases h
      simp only [Bool.and_eq_true, decide_eq_true_eq] at hc
      have e1 : ev K (.comp 174019174047 ⟨.function, [(".0", .local), ("sign", .local), ("due", .free)], false, false, []⟩ ["sign", "due"] [2] (.t1 174034174038 0) (.val (.var 174042174046 1)) .none (.idx 174020174029 (.var 174020174023 1) (.var 174024174028 0))) false [some (.int k), some (.str n x), some (.fn d)] = some (.lst (ys.map (V.str false))) := by
        show (if lim < (x.cps.toList.map fun c => V.str false ⟨#[c]⟩).length then none else (compL (putT 1 (.t1 174034174038 0)) (evC K .none) (ev K (.idx 174020174029 (.var 174020174023 1) (.var 174024174028 0)) false) (x.cps.toList.map fun c => V.str false ⟨#[c]⟩) [none, some (.fn d)]).map V.lst) = _
        rw [spell_loop hK _ _ _ hy, if_neg]
        · rfl
        · rw [List.length_map]
          have : x.cps.toList.length = x.length := by simp [Str.length]
          lia
      have e2 : methV "join" (.str true "") [.lst (ys.map (V.str false))] = some (.str false (Txt.join "" ys)) := by
        show (match strsOf (ys.map (V.str false)) with | some (zs : List Str) => if (zs.map (fun z : Str => z.length)).sum + zs.length * Str.length "" ≤ lim then some (V.str false (Txt.join "" zs)) else none | none => none) = _
        rw [strsOf_map]
        exact if_pos hc.2
      have e3 : ev K (.meth 174011174048 174011174018 (.cstr 174011174013 "") "join" (.cons (.comp 174019174047 ⟨.function, [(".0", .local), ("sign", .local), ("due", .free)], false, false, []⟩ ["sign", "due"] [2] (.t1 174034174038 0) (.val (.var 174042174046 1)) .none (.idx 174020174029 (.var 174020174023 1) (.var 174024174028 0))) .nil)) false [some (.int k), some (.str n x), some (.fn d)] = some (.str false (Txt.join "" ys)) := by
        rw [evE_meth, evL_cons, e1]
        exact e2
      show ((ev K _ false _).bind _).bind _ = _
      rw [e3]
      rfl
    · cases h
  · cases h

theorem cmp_ev {K : Kx} {k : Int} {n : Bool} {x y z : Str} {c p q r p' p'' q' : Nat} : ev K (.ite p (.cmp q .Eq (.var r 0) (.cint p' c)) (.cstr p'' y) (.cstr q' z)) false [some (.int k), some (.str n x), none] = some (.str true (if k == c then y else z)) := by
  have e : ev K (.cmp q .Eq (.var r 0) (.cint p' c)) true [some (.int k), some (.str n x), none] = some (.bool (k == c)) := rfl
  rw [evE_ite, e]
  cases h : k == (c : Int) <;> rfl

set_option maxHeartbeats 2000000 in
theorem sp_at {h₀ : Heap} (B : Sta w h₀) (C : Cx PW w) (O : On B C) : ∀ vs v, spF vs = some v → FnC C (C.d + 1) "_law_spelled" vs v := by
  intro vs v h
  have hvs : ∃ k n x, vs = [.int k, .str n x] := by
    unfold spF at h
    split at h
    · exact ⟨_, _, _, rfl⟩
    · cases h
  obtain ⟨k, n, x, rfl⟩ := hvs
  refine fnC_of B C O (by decide +kernel) fun a fd pm code doc e hG => ?_
  subst e
  refine fun_gen C (nm := nm_law_spelled) (sn := sn_law_spelled) (b := b_law_spelled) ok_law_spelled rfl rfl O.gl.symm O.bl.symm rfl rfl rfl rfl (fun xs h => by obtain ⟨a, b, rfl⟩ := len2 h; rfl) hG (by show 2 ≤ 3; lia) fun A M Ch env s hr f Q E hq => ?_
  have f' : FS C M Ch nm_law_spelled sn_law_spelled nm_law_spelled.length env [some (.int k), some (.str n x), none] s := f
  have hx : ∀ d, ∃ σ', exL (C.K.withDic d (dueOf k)) bSp (List.set [some (.int k), some (.str n x), none] 2 (some (.fn d))) = some (.ret v, σ') := fun d => ⟨_, sp_run (by show (if d = d then _ else _) = _; rw [if_pos rfl]) h⟩
  exact top_dict (C := C) (i := 2) (k1 := "&") (k2 := "<") (k3 := ">") (z1 := "&amp;") (z2 := if k == (2 : Nat) then "<" else "&lt;") (z3 := if k == (4 : Nat) then ">" else "&gt;") (xs := bSp) hr (by decide) (by decide) (by decide) (by decide +kernel) (by decide +kernel) (by decide +kernel) rfl cmp_ev cmp_ev (by decide) (by decide +kernel) f' hx Q E hq

end Mine

namespace Mine
open PySem PySem.W PySem.Calls PyProof.Rows

variable {w : World}

theorem on0 {h₀ : Heap} (B : Sta w h₀) (d : Nat) : On B (C0 B d) := ⟨fun h g => g, rfl, rfl⟩

noncomputable def f1 (K : Kx) (id : Str) (vs : List V) : Option V := match tabF K L1 id vs with | some v => some v | none => if id == ("_law_spelled" : Str) then spF vs else none
theorem f1_ok {h₀ : Heap} (B : Sta w h₀) (C : Cx PW w) (O : On B C) : ∀ F vs v, f1 C.K F vs = some v → FnC C (C.d + 1) F vs v := by
  intro F vs v h
  unfold f1 at h
  split at h
  · rename_i u hu
    cases h
    exact tab_ok B C O L1 l1 F vs _ hu
  · split at h
    · rename_i hF
      have := beq_iff_eq.mp hF
      subst this
      exact sp_at B C O vs v h
    · cases h

noncomputable def noG (id : Str) (v : V) : Option (List V) := none

noncomputable def C1 {h₀ : Heap} (B : Sta w h₀) : Cx PW w := (C0 B 0).more 2 (by show 0 ≤ 2; lia) (f1 (C0 B 0).K) genG (fun F vs v h => (f1_ok B _ (on0 B 0) F vs v h).mono (by show 0 + 1 ≤ 2; lia)) (fun F v vs h => gen_at B _ (on0 B 0) F v vs h)
theorem on1 {h₀ : Heap} (B : Sta w h₀) : On B (C1 B) := ⟨fun h g => g, rfl, rfl⟩
noncomputable def C2 {h₀ : Heap} (B : Sta w h₀) : Cx PW w := (C1 B).more 3 (by show 2 ≤ 3; lia) (tabF (C1 B).K L2) noG (tab_ok B _ (on1 B) L2 l2) (fun F v vs h => nomatch h)
theorem on2 {h₀ : Heap} (B : Sta w h₀) : On B (C2 B) := ⟨fun h g => g, rfl, rfl⟩
noncomputable def C3 {h₀ : Heap} (B : Sta w h₀) : Cx PW w := (C2 B).more 4 (by show 3 ≤ 4; lia) (tabF (C2 B).K L3) noG (tab_ok B _ (on2 B) L3 l3) (fun F v vs h => nomatch h)
theorem on3 {h₀ : Heap} (B : Sta w h₀) : On B (C3 B) := ⟨fun h g => g, rfl, rfl⟩
noncomputable def C4 {h₀ : Heap} (B : Sta w h₀) : Cx PW w := (C3 B).more 5 (by show 4 ≤ 5; lia) (tabF (C3 B).K L4) noG (tab_ok B _ (on3 B) L4 l4) (fun F v vs h => nomatch h)
theorem on4 {h₀ : Heap} (B : Sta w h₀) : On B (C4 B) := ⟨fun h g => g, rfl, rfl⟩

/-- the same, with no heap in sight -/
noncomputable def Kx.more (K : Kx) (F' : Str → List V → Option V) (G' : Str → V → Option (List V)) : Kx := { K with F := fun id vs => match F' id vs with | some v => some v | none => K.F id vs, gen := fun id v => match G' id v with | some v => some v | none => K.gen id v }
noncomputable def K1 : Kx := K0.more (f1 K0) genG
noncomputable def K2 : Kx := K1.more (tabF K1 L2) noG
noncomputable def K3 : Kx := K2.more (tabF K2 L3) noG
noncomputable def K4 : Kx := K3.more (tabF K3 L4) noG
theorem k4 {h₀ : Heap} (B : Sta w h₀) : (C4 B).K = K4 := rfl

/-- the law's call, from what its text computes -/
theorem law_at {h₀ : Heap} (B : Sta w h₀) {vs : List V} {v : V} (hl : vs.length = 1) (h : runF K4 nmlaw blaw vs = some v) : FnC (C4 B) 6 "law" vs v :=
  fflaw.run B (C4 B) (on4 B) hl h

end Mine

namespace Mine
open PySem PySem.W PySem.Calls PyProof.Rows

variable {w : World}

/-! the law's call, from a state of which nothing is known of the tokens -/
noncomputable abbrev bump (s : Shared) : Shared := { s with toks := s.toks + 1 }
theorem adv_bump {s : Shared} : AdvE s (bump s) := AdvE.tok (Nat.le_succ _)

theorem fun_gen0 {prog : Program} (C : Cx prog w) {a : Addr} {fd : FuncData} {nm : List Str} {sn : Nms} {b : SL} {vs : List V} {v : V} (hf : okFn nm sn = true) (hn : fd.scope.names = sn) (hk : fd.scope.kind = .function) (hgl : fd.globals = C.gl) (hbl : fd.builtins = C.bl)
    (hco : fd.scope.isCoroutine = false) (hgen : fd.scope.isGenerator = false) (hclo : fd.closure = []) (hbody : fd.body = .stmts (deSL nm b))
    (hbind : ∀ xs : List Value, xs.length = vs.length → bindArgs fd ⟨xs, []⟩ = pure (nm.zip xs))
    (hG : ∀ h, C.G h → ∃ o, h.get? a = some o ∧ o.data = .func fd ∧ h.CodeRec fd.code fd.qualname ∧ h.NoLimit)
    (hlen : vs.length ≤ nm.length)
    (hwalk : ∀ (A : Around) (M : Gh) (Ch : Pr) (env : Env) (s : Shared), RM A C.d → FS C M Ch nm sn nm.length env (vs.map some ++ List.replicate (nm.length - vs.length) none) (bump s) → ∀ (Q : Flow → Shared → Prop) (E : Value → Shared → Prop),
      (∀ f s' M', (∀ t u, M.τ t = some u → M'.τ t = some u) → Tb M' s'.toks → (∀ b, M.m b → M'.m b ∨ Ch b) → Adv Ch s.gens.size s s' → FlR M' s'.heap (.ret v) f → Q f s') → wpAny (model prog w) A (execs (deSL nm b) env) Q E s) :
    ∀ A (s : Shared) (M : Gh) xs, RM A (C.d + 1) → plains vs = true → C.G s.heap → Tb M s.toks → Al M.m s.heap → VRs M s.heap vs xs → EvAt prog w A M (call (.ref a) xs) v s := by
  intro A s M xs hr hp g hb hal r Q E h
  obtain ⟨o, ho, hd, hcd, hlim⟩ := hG _ g
  have hfn := okFn_ok hf
  have hxl := VRs.length r
  refine wpAny_call (codeAny_call_function hr.d ho hd hco hgen hbody hcd ?_)
  rw [hbind xs hxl, hclo]
  refine wpAny_pure (wpAny_with_toks (Nat.le_refl s.toks) (wpAny_newFunctionEnv_cells hk ?_ fun env he s₁ x ht => ?_))
  · intro x hx
    obtain ⟨i, hi, hix⟩ := List.mem_iff_getElem.mp hx
    have hin : i < nm.length := by rw [List.length_zip] at hi; lia
    have e : x.1 = nmAt nm i := by
      rw [← hix, List.getElem_zip]
      unfold nmAt
      rw [List.getD_eq_getElem?_getD, List.getElem?_eq_getElem hin]; rfl
    rw [e, hn]
    rcases hfn.kd i hin with hl | ⟨hl, hm⟩
    · exact Or.inl hl
    · refine Or.inr ⟨hl, ?_⟩
      obtain ⟨c, hc, _⟩ := cellsFrom_own (id := nmAt nm i) (B₀ := 0) sn { s.heap with objs := (s.heap.push { cls := .type "frame", data := .dict #[] }).objs } [] (Or.inl hm) (Nat.zero_le _)
      have hz : (s.heap.push { cls := .type "frame", data := .dict #[] }).objs.size = s.heap.objs.size + 1 := Heap.size_push ..
      have hc' : (cellsFrom (s.heap.objs.size + 1) sn []).lookup (nmAt nm i) = some c := by rw [← hz]; exact hc
      rw [hc']; rfl
  subst he
  refine ⟨hlim.keeps x.toInCall.keep, codeAny_func ?_⟩
  have x' : InCallC (bump s) (callEnvC fd s.heap.objs.size a).locals (bindL (callEnvC fd s.heap.objs.size a).kindOf (nm.zip xs) fun _ => none) (callEnvC fd s.heap.objs.size a).cells (bindC (callEnvC fd s.heap.objs.size a).kindOf (nm.zip xs) fun _ => none) (bump s₁) := by
    obtain ⟨⟨⟨h', tk, rfl⟩, hns, hkeep, hfr⟩, hcell, hpw, habove⟩ := x
    exact ⟨⟨⟨h', tk + 1, rfl⟩, hns, hkeep, hfr⟩, hcell, hpw, habove⟩
  have ha1 : AdvE s s₁ := by
    obtain ⟨⟨⟨h', tk, rfl⟩, hns, hkeep, hfr⟩, hcell, hpw, habove⟩ := x
    exact AdvE.of hkeep ht
  obtain ⟨adv, Ch, hfr, f⟩ := FS.start (C := C) (s := bump s) (s₁ := bump s₁) hfn hn hk hgl hbl (a := a) hlen g (Nat.le_add_left 1 _) (hb.mono (Nat.le_succ _)) hal hp r x' (Nat.succ_le_succ ht)
  refine hwalk _ _ Ch _ s₁ hr.deeper f _ _ fun ff s' M' τ' t' m' a' hfl => ?_
  obtain ⟨y, rfl, ry, py⟩ := hfl
  have hM : ∀ b, M.m b → M'.m b := fun b hb => by
    rcases m' b (Or.inl hb) with z | z
    · exact z
    · obtain ⟨o, ho⟩ := hal b hb
      rw [hfr b z] at ho; cases ho
  exact h y s' ⟨M.m, M'.τ⟩ ⟨rfl, τ'⟩ (fun t ht => t' t ht) (Adv.trans ha1 a' ha1.gsz fun x hx => Or.inr (hfr x hx)) (VR.less (M' := ⟨M.m, M'.τ⟩) (fun b hb => Or.inl (hM b hb)) (fun _ _ e => e) py ry)

section
variable {prog : Program} {C : Cx prog w} {A : Around}

/-- written ints, the first of them from a state of which nothing is known -/
theorem ints0 {M : Gh} {Ch : Pr} {nm : List Str} {sn : Nms} {n : Nat} {env : Env} {σ : Sto} {s : Shared} (hr : RM A C.d) (f : FS C M Ch nm sn n env σ (bump s)) {p k : Nat} {xs : XL} (hw : wfL nm sn xs = true) {us : List V} (hus : evL C.K xs σ = some us)
    {Q : List Value → Shared → Prop} {E : Value → Shared → Prop}
    (h : ∀ ys s' M', M.le M' → Tb M' s'.toks → AdvE (bump s) s' → VRs M' s'.heap (.int k :: us) ys → Q ys s') :
    wpAny (model prog w) A (spliced (trs nm env (.cons (.cint p k) xs))) Q E s := by
  refine spliced_cons (wpAny_Constant_int ?_)
  refine evl_ok hr xs nm sn n M Ch env σ (bump s) hw f us hus _ _ fun ys s₂ M₂ g₂ t₂ a₂ r₂ => ?_
  exact h _ s₂ M₂ g₂ t₂ a₂ ⟨_, ys, rfl, ⟨_, rfl⟩, r₂⟩

theorem tup0 {M : Gh} {Ch : Pr} {nm : List Str} {sn : Nms} {n : Nat} {env : Env} {σ : Sto} {s : Shared} (hr : RM A C.d) (f : FS C M Ch nm sn n env σ (bump s)) {pp p k : Nat} {xs : XL} (hw : wfL nm sn xs = true) {us : List V} (hus : evL C.K xs σ = some us) (hl : us.length ≤ 100)
    {Q E : Value → Shared → Prop} (h : ∀ y s' M', M.le M' → Tb M' s'.toks → AdvE (bump s) s' → VR M' s'.heap (.tup (.int k :: us)) y → Q y s') :
    wpAny (model prog w) A (eval (deX nm (.tup pp (.cons (.cint p k) xs))) env) Q E s := by
  refine Tuple_ ?_
  rw [back_star]
  refine ints0 hr f hw hus fun ys s₁ M₁ g₁ t₁ a₁ r₁ => ?_
  have f₁ := f.adv g₁ t₁ a₁
  have hlim := lim_le
  refine wpAny_newTuple (h _ _ M₁ g₁ (t₁.mono (Nat.le_refl _)) (a₁.trans AdvE.push) (new_tup f₁.al (by simpa using r₁))) ?_
  rw [VRs.length r₁, List.length_cons]
  have : (100 : Nat) + 1 ≤ lim := by decide
  lia

theorem enm0 {M : Gh} {Ch : Pr} {nm : List Str} {sn : Nms} {n : Nat} {env : Env} {σ : Sto} {s : Shared} (hr : RM A C.d) (f : FS C M Ch nm sn n env σ (bump s)) {q1 q2 pp p k : Nat} {xs : XL} (hg : glOk sn "enumerate" = true) (hw : wfL nm sn xs = true) {us : List V} (hus : evL C.K xs σ = some us) (hl : us.length ≤ 100)
    {items : List V} (hv : enumV (.tup (.int k :: us)) = some items) (Q E : Value → Shared → Prop)
    (h : ∀ s₁ itv W s₂ M₁, M.le M₁ → Tb M₁ s₁.toks → AdvE (bump s) s₁ → ItMade prog w A true items M₁ s₁ itv W s₂ → Q itv s₂) :
    wpAny (model prog w) A (eval (deI nm (.enm q1 q2 (.tup pp (.cons (.cint p k) xs)))) env) (fun x s₁ => wpAny (model prog w) A (pyIter x) Q E s₁) E s := by
  obtain ⟨wg1, wg2⟩ := glOk_ok hg
  refine Call_Name (one_arg _ (.tup pp (.cons (.cint p k) xs))) (Name_function_global f.kind (f.gkind wg1) (C.ty "enumerate" (List.mem_cons_of_mem _ (List.mem_cons_self ..)) A env s _ _ f.gl f.bl f.g ?_) wg2)
  rw [if_neg (by decide)]
  refine PySem.callWith_type rfl (evalArgs_plain (spliced_cons (tup0 hr f hw hus hl fun xv s₁ M₁ g₁ t₁ a₁ r₁ => spliced_nil ?_)))
  exact enum_iter hv (f.adv g₁ t₁ a₁).al r₁ _ _ fun it W s₂ im => h s₁ it W s₂ M₁ g₁ t₁ a₁ (im A hr.handled)

/-- an assignment of a comprehension over such a tuple -/
theorem asg0 {M : Gh} {Ch : Pr} {nm : List Str} {sn : Nms} {env : Env} {σ : Sto} {s : Shared} (hr : RM A C.d) (f : FS C M Ch nm sn nm.length env σ (bump s)) {P q i cp : Nat} {sc : Scope} {nm' : List Str} {cap : List Nat} {t : T} {q1 q2 pp p k : Nat} {xs : XL} {cond : Cd} {elt : X}
    (hw : wfX nm sn (.comp cp sc nm' cap t (.enm q1 q2 (.tup pp (.cons (.cint p k) xs))) cond elt) = true) (hg : glOk sn "enumerate" = true) (hwx : wfL nm sn xs = true) (hb : swB nm sn q i (.comp cp sc nm' cap t (.enm q1 q2 (.tup pp (.cons (.cint p k) xs))) cond elt) = false)
    {us items final : List V} {cs : Sto} (hus : evL C.K xs σ = some us) (hl : us.length ≤ 100) (hv : enumV (.tup (.int k :: us)) = some items) (hcs : caps σ cap = some cs) (hlen : items.length ≤ lim)
    (hfinal : compL (putT (nT t) t) (evC C.K cond) (ev C.K elt false) items (List.replicate (nT t) none ++ cs) = some final) {σ' : Sto} (hσ : putV i (.lst final) σ = some σ')
    (Q : Flow → Shared → Prop) (E : Value → Shared → Prop)
    (h : ∀ s' M', M.le M' → Adv Ch s.gens.size s s' → FS C M' Ch nm sn nm.length env σ' s' → Q .next s') :
    wpAny (model prog w) A (exec (deS nm (.asg P q i (.comp cp sc nm' cap t (.enm q1 q2 (.tup pp (.cons (.cint p k) xs))) cond elt))) env) Q E s := by
  have hsw := swB_ok (nm := nm) (sn := sn) (env := env) (q := q) (i := i) (line := (ps P).line) (.comp cp sc nm' cap t (.enm q1 q2 (.tup pp (.cons (.cint p k) xs))) cond elt) f.kind f.names
  rw [hb] at hsw
  refine wpAny_Assign_Name (h := ?_) hsw
  replace hw : (_ && _) = true := hw
  simp only [Bool.and_eq_true] at hw
  obtain ⟨⟨⟨⟨wsc, wi⟩, wt⟩, wc⟩, we⟩ := hw
  have hp := compL_plain hfinal
  show wpAny (model prog w) A (comprehension (.ListComp (deX nm' elt) [⟨deT nm' t, deI nm (.enm q1 q2 (.tup pp (.cons (.cint p k) xs))), deC nm' cond, 0⟩] sc (ps cp)) sc env (deI nm (.enm q1 q2 (.tup pp (.cons (.cint p k) xs)))).pos (newList []) false (eval (deI nm (.enm q1 q2 (.tup pp (.cons (.cint p k) xs)))) env) none) _ E s
  refine comp_core f hr.handled (okSc_ok wsc) hcs (tg_ok wt) (fun x => fold_ok _ x) _ E (fun Q E h => enm0 hr f hg hwx hus hl hv Q E h)
      (fun M' Ch' env' σ' s' b f' hb Q E h => evc_ok hr cond nm' _ _ M' Ch' env' σ' s' wc f' b hb Q E fun s'' M'' g t a => h s'' M'' g t a)
      (fun M' Ch' env' σ' s' v f' hv => (ev_ok hr elt nm' _ _ M' Ch' env' σ' s' we f').1 v hv) hfinal hlen ?_
  intro acc L s'' τ' hτ htb a hL ⟨m, hn⟩ r
  refine ⟨m, hn, fun h' hs' => ?_⟩
  have hs' : Heap.SameBut L s''.heap h' := hs'
  have hr' : VR ⟨fun b => M.m b ∨ b = L, τ'⟩ h' (.lst final) (.ref acc) := VR.but (fun b o hb e => (hs'.2 b (fun z => hb (Or.inr z))).trans e) hp r
  have a' : AdvE (bump s) { s'' with heap := h' } := a.transW (AdvW.ext (C := fun b => b = L) (n := (bump s).gens.size) (a := L) (k := s''.toks) rfl hs'.extBut (Nat.le_refl _)) (Nat.le_refl _) fun x hx => by rw [hx]; exact hL
  have f₁ := f.adv (M' := ⟨M.m, τ'⟩) (s' := { s'' with heap := h' }) ⟨rfl, hτ⟩ htb a'
  refine putV_ok f₁ hσ (VR.less (M := ⟨fun b => M.m b ∨ b = L, τ'⟩) (M' := ⟨M.m, τ'⟩) (h := h') (fun b hb => Or.inl (Or.inl hb)) (fun _ _ e => e) hp hr') _ _ fun s₂ a₂ f₂ => ?_
  exact h s₂ ⟨M.m, τ'⟩ ⟨rfl, hτ⟩ (advC (adv_bump.trans a') a₂) f₂
end

end Mine

namespace Mine
open PySem PySem.W PySem.Calls PyProof.Rows

variable {w : World}

noncomputable def restlaw : SL := match blaw with | .cons _ xs => xs | .nil => .nil
noncomputable def lawElt : X := match blaw with | .cons (.asg _ _ _ (.comp _ _ _ _ _ _ _ e)) _ => e | _ => xD
noncomputable def lawSc : Scope := match blaw with | .cons (.asg _ _ _ (.comp _ sc _ _ _ _ _ _)) _ => sc | _ => ⟨.function, [], false, false, []⟩
noncomputable abbrev cs4 : XL := .cons (.cint 231078231079 1) (.cons (.cint 231081231082 6) (.cons (.cint 231084231085 4) (.cons (.cint 231087231088 2) .nil)))
noncomputable abbrev lawEnm : It := .enm 231064231090 231064231073 (.tup 231074231089 (.cons (.cint 231075231076 4) cs4))
theorem blaw_eq : blaw = .cons (.asg 231004231091 231004231008 1 (.comp 231011231091 lawSc ["k", "due", "script"] [0] (.t2 231054231060 231054231055 0 231057231060 1) lawEnm .none lawElt)) restlaw := rfl

noncomputable def items5 : List V := [.tup [.int 0, .int 4], .tup [.int 1, .int 1], .tup [.int 2, .int 6], .tup [.int 3, .int 4], .tup [.int 4, .int 2]]

theorem law_walk {h₀ : Heap} (B : Sta w h₀) {vs : List V} {v : V} (hl : vs.length = 1) (h : runF K4 nmlaw blaw vs = some v)
    (A : Around) (M : Gh) (Ch : Pr) (env : Env) (s : Shared) (hr : RM A (C4 B).d) (f : FS (C4 B) M Ch nmlaw snlaw nmlaw.length env (vs.map some ++ List.replicate (nmlaw.length - vs.length) none) (bump s)) (Q : Flow → Shared → Prop) (E : Value → Shared → Prop)
    (hq : ∀ f s' M', (∀ t u, M.τ t = some u → M'.τ t = some u) → Tb M' s'.toks → (∀ b, M.m b → M'.m b ∨ Ch b) → Adv Ch s.gens.size s s' → FlR M' s'.heap (.ret v) f → Q f s') : wpAny (model PW w) A (execs (deSL nmlaw blaw) env) Q E s := by
  have hw : wfT nmlaw snlaw (.cons (.asg 231004231091 231004231008 1 (.comp 231011231091 lawSc ["k", "due", "script"] [0] (.t2 231054231060 231054231055 0 231057231060 1) lawEnm .none lawElt)) restlaw) = true := blaw_eq ▸ wflaw
  have hw' := Bool.and_eq_true_iff.mp (show (wfX nmlaw snlaw (.comp 231011231091 lawSc ["k", "due", "script"] [0] (.t2 231054231060 231054231055 0 231057231060 1) lawEnm .none lawElt) && wfT nmlaw snlaw restlaw) = true from hw)
  unfold runF at h
  split at h
  · rename_i u σ' hx
    cases h
    rw [blaw_eq] at hx
    rw [← k4 B] at hx
    generalize hσ0 : vs.map some ++ List.replicate (nmlaw.length - vs.length) none = σ at hx f
    rw [exL_cons] at hx
    obtain ⟨⟨fl, σ₁⟩, h1, hx⟩ := Option.bind_eq_some_iff.mp hx
    rw [exS_asg] at h1
    obtain ⟨fv, hv, h1⟩ := Option.bind_eq_some_iff.mp h1
    obtain ⟨σ₂, hσ, h1⟩ := Option.map_eq_some_iff.mp h1
    cases h1
    rw [evE_comp] at hv
    obtain ⟨ws, hws, hv⟩ := Option.bind_eq_some_iff.mp hv
    have hws' : evI (C4 B).K lawEnm σ = some items5 := rfl
    rw [hws'] at hws
    cases hws
    obtain ⟨cs, hcs, hv⟩ := Option.bind_eq_some_iff.mp hv
    split at hv
    · cases hv
    · rename_i hlen
      obtain ⟨final, hfinal, rfl⟩ := Option.map_eq_some_iff.mp hv
      rw [blaw_eq]
      refine wpAny_execs_cons (asg0 hr f (cs := cs) (us := [.int 1, .int 6, .int 4, .int 2]) (items := items5) (final := final) hw'.1 (by decide +kernel) (by decide +kernel) (by decide +kernel) rfl (by decide) rfl hcs (by decide) hfinal hσ _ _ fun s₁ M₁ g₁ a₁ f₁ => ?_)
      exact top_ok (C := C4 B) hr restlaw hw'.2 M₁ Ch env _ s₁ f₁ _ hx Q E fun f' s₂ M₂ τ₂ t₂ m₂ a₂ hf => hq f' s₂ M₂ (fun t u e => τ₂ t u (g₁.τ t u e)) t₂ (fun b hb => m₂ b (by rw [g₁.m]; exact hb)) (Adv.trans a₁ a₂ a₁.gsz fun x hx => Or.inl hx) hf
  · cases h

theorem law_ev {h₀ : Heap} (B : Sta w h₀) {vs : List V} {v : V} (hl : vs.length = 1) (h : runF K4 nmlaw blaw vs = some v) {a : Addr} (hm : B.mg "law" = some (.ref a)) :
    ∀ A (s : Shared) (M : Gh) xs, RM A 6 → plains vs = true → St h₀ s.heap → Tb M s.toks → Al M.m s.heap → VRs M s.heap vs xs → EvAt PW w A M (call (.ref a) xs) v s := by
  obtain ⟨hmem, hn⟩ := dr_mem (F := "law") fflaw.rc
  obtain ⟨a', o, pm, code, doc, h1, h2, h3, h4⟩ := B.fn _ hmem
  rw [hn, hm] at h1
  cases h1
  have O := on4 B
  exact fun_gen0 (C4 B) (fd := docDef (dr "law").name (dr "law").params (dr "law").body (dr "law").scope pm code doc) fflaw.nms fflaw.names fflaw.kind O.gl.symm O.bl.symm fflaw.co fflaw.gen rfl (congrArg FuncBody.stmts fflaw.body)
    (by rw [hl]; exact fflaw.bind pm code doc) (fun h g => ⟨o, O.G h g a o h2, h3, h4.keeps (O.G h g), (C4 B).nolim h g⟩) (by rw [hl]; exact fflaw.len) (law_walk B hl h)

end Mine

namespace Mine
open PySem PySem.W PySem.Calls PyProof.Rows PySem.Builtin PySem.Builtin.Str PySem.StrLaws

/-! strs as lists -/
noncomputable abbrev St8 (l : List Nat) : Str := ⟨l.toArray⟩
theorem st_list (l : List Nat) : (St8 l).cps.toList = l := rfl
theorem st_len (l : List Nat) : (St8 l).length = l.length := by simp [Str.length]
theorem st_app (l m : List Nat) : St8 l ++ St8 m = St8 (l ++ m) := Str.ext' (by simp [Str.cps_append])
theorem st_inj {l m : List Nat} (h : St8 l = St8 m) : l = m := by
  have := congrArg (fun s : Str => s.cps.toList) h
  exact this
theorem st_eta (s : Str) : St8 s.cps.toList = s := rfl
theorem st_beq (l m : List Nat) : (St8 l == St8 m) = decide (l = m) := by
  rw [Bool.eq_iff_iff, beq_iff_eq, decide_eq_true_eq]
  exact ⟨st_inj, fun h => by rw [h]⟩

/-! one sign replaced -/
noncomputable def sub1 (c : Nat) (z : List Nat) (l : List Nat) : List Nat := l.flatMap fun d => if d = c then z else [d]
theorem sub1_app (c : Nat) (z l m : List Nat) : sub1 c z (l ++ m) = sub1 c z l ++ sub1 c z m := List.flatMap_append
theorem sub1_free (c : Nat) (z : List Nat) : ∀ l : List Nat, c ∉ l → sub1 c z l = l
  | [], _ => rfl
  | k :: r, h => by
    have h1 : ¬ k = c := fun e => h (e ▸ List.mem_cons_self ..)
    have ih := sub1_free c z r fun m => h (List.mem_cons_of_mem _ m)
    show (if k = c then z else [k]) ++ sub1 c z r = _
    rw [if_neg h1, ih]; rfl
theorem sub1_join (c : Nat) (z : List Nat) : ∀ parts : List Str, (∀ p ∈ parts, c ∉ p.cps.toList) → sub1 c z (Str.join ⟨#[c]⟩ parts).cps.toList = (Str.join (St8 z) parts).cps.toList
  | [], _ => rfl
  | [p], h => sub1_free c z _ (h p (List.mem_singleton.mpr rfl))
  | p :: q :: r, h => by
    have ih := sub1_join c z (q :: r) fun a ha => h a (List.mem_cons_of_mem _ ha)
    show sub1 c z (p ++ ⟨#[c]⟩ ++ Str.join ⟨#[c]⟩ (q :: r)).cps.toList = (p ++ St8 z ++ Str.join (St8 z) (q :: r)).cps.toList
    simp only [Str.cps_append, Array.toList_append]
    rw [sub1_app, sub1_app, ih, sub1_free c z _ (h p (List.mem_cons_self ..))]
    show p.cps.toList ++ sub1 c z [c] ++ _ = _
    have : sub1 c z [c] = z := by simp [sub1]
    rw [this]
theorem replace_sub1 (x : Str) (c : Nat) (z : List Nat) : (Txt.replace x ⟨#[c]⟩ (St8 z)).cps.toList = sub1 c z x.cps.toList := by
  rw [replace_one, ← sub1_join c z _ (split_free x c), join_split]

theorem occ_free (l : List Nat) (c : Nat) (n : Nat) (hn : 1 ≤ n) : (occurrences (St8 l) ⟨#[c]⟩ 0 (St8 l).length n).isEmpty = !decide (c ∈ l) := by
  rcases occ_head (St8 l) ⟨#[c]⟩ n hn with ⟨h0, hn⟩ | ⟨i, r, h0, ha, _⟩
  · rw [h0]
    have : c ∉ l := fun hm => by
      obtain ⟨j, hj⟩ := List.getElem?_of_mem hm
      exact hn j ((subAt_one (St8 l) c j).mpr hj)
    rw [decide_eq_false this]; rfl
  · rw [h0]
    have : c ∈ l := List.mem_of_getElem? ((subAt_one (St8 l) c i).mp ha)
    rw [decide_eq_true this]; rfl
theorem contains1 (l : List Nat) (c : Nat) : Txt.contains (St8 l) ⟨#[c]⟩ = decide (c ∈ l) := by
  unfold Txt.contains
  rw [occ_free l c 1 (Nat.le_refl _), Bool.not_not]

theorem replS_one (l z : List Nat) (c : Nat) : replS (St8 l) ⟨#[c]⟩ (St8 z) = St8 (sub1 c z l) := by
  have h := replace_sub1 (St8 l) c z
  unfold replS
  rw [occ_free l c _ (Nat.le_add_left 1 _)]
  by_cases hc : c ∈ l
  · rw [decide_eq_true hc]
    unfold Txt.replace at h
    rw [occ_free l c _ (Nat.le_add_left 1 _), decide_eq_true hc] at h
    have h10 : ((⟨#[c]⟩ : Str).length == 0) = false := rfl
    rw [h10] at h
    simp only [Bool.not_true, Bool.false_and, Bool.or_false, Bool.false_eq_true, if_false] at h ⊢
    rw [← h]
  · rw [decide_eq_false hc, sub1_free c z l hc]
    rfl
end Mine

namespace Mine
open PySem PySem.W PySem.Calls PyProof.Rows PySem.Builtin PySem.Builtin.Str PySem.StrLaws

theorem tm_true (o : Option V) : tm true o = o.bind fun v => (truthV v).map V.bool := rfl

theorem exL_next {K : Kx} {x : S} {xs : SL} {σ σ' : Sto} (h : exS K x σ = some (.next, σ')) : exL K (.cons x xs) σ = exL K xs σ' := by rw [exL_cons, h]; rfl
theorem exL_nil (K : Kx) (σ : Sto) : exL K .nil σ = some (.next, σ) := rfl

theorem esc_step (K : Kx) {n : Bool} {c z : Str} {c0 : Nat} {z0 l : List Nat} {p1 p2 p3 p4 p5 p6 p7 p8 p9 p10 p11 : Nat} (hc : c = ⟨#[c0]⟩) (hz : z = St8 z0) (hne : (c == z) = false) (hl : l.length ≤ 1000) (hzl : z0.length ≤ 1000) (hn : (n || decide (c0 ∈ l)) = true) (xs : SL) :
    exL K (.cons (.iff p1 (.cmp p2 .In (.cstr p3 c) (.var p4 0)) (.cons (.asg p5 p6 0 (.repl p7 p8 (.var p9 0) p10 c p11 z)) .nil) .nil) xs) [some (.str n (St8 l))] = exL K xs [some (.str true (St8 (sub1 c0 z0 l)))] := by
  have e1 : evT K (.cmp p2 .In (.cstr p3 c) (.var p4 0)) [some (.str n (St8 l))] = some (decide (c0 ∈ l)) := by
    show some (Txt.contains (St8 l) c) = _
    rw [hc, contains1]
  by_cases hm : c0 ∈ l
  · have e2 : ev K (.repl p7 p8 (.var p9 0) p10 c p11 z) false [some (.str n (St8 l))] = some (.str true (St8 (sub1 c0 z0 l))) := by
      show (if (!(c == z) && !(c.length == 0) && decide (z.length ≤ 1000) && decide ((St8 l).length ≤ 1000)) = true then some (V.str (n || !(occurrences (St8 l) c 0 (St8 l).length ((St8 l).length + 1)).isEmpty) (replS (St8 l) c z)) else none) = _
      rw [hne, hz, hc, replS_one, decide_eq_true (by rw [st_len]; exact hzl), decide_eq_true (by rw [st_len]; exact hl), occ_free l c0 _ (Nat.le_add_left 1 _), decide_eq_true hm]
      show some (V.str (n || true) _) = _
      rw [Bool.or_true]
    have e3 : exS K (.iff p1 (.cmp p2 .In (.cstr p3 c) (.var p4 0)) (.cons (.asg p5 p6 0 (.repl p7 p8 (.var p9 0) p10 c p11 z)) .nil) .nil) [some (.str n (St8 l))] = some (.next, [some (.str true (St8 (sub1 c0 z0 l)))]) := by
      rw [exS_iff, e1, decide_eq_true hm]
      show exL K _ _ = _
      rw [exL_cons, exS_asg, e2]
      rfl
    rw [exL_cons, e3]
    rfl
  · rw [decide_eq_false hm, Bool.or_false] at hn
    subst hn
    have e3 : exS K (.iff p1 (.cmp p2 .In (.cstr p3 c) (.var p4 0)) (.cons (.asg p5 p6 0 (.repl p7 p8 (.var p9 0) p10 c p11 z)) .nil) .nil) [some (.str true (St8 l))] = some (.next, [some (.str true (St8 l))]) := by
      rw [exS_iff, e1, decide_eq_false hm]
      rfl
    rw [exL_cons, e3, sub1_free c0 z0 l hm]
    rfl

/-- many signs replaced, one behind the other -/
noncomputable def chainL (cs : List (Nat × List Nat)) (l : List Nat) : List Nat := cs.foldl (fun l c => sub1 c.1 c.2 l) l
theorem chainL_flat : ∀ (cs : List (Nat × List Nat)) (l : List Nat), chainL cs l = l.flatMap fun d => chainL cs [d]
  | [], l => by simp [chainL]
  | c :: cs, l => by
    show chainL cs (sub1 c.1 c.2 l) = l.flatMap fun d => chainL cs (sub1 c.1 c.2 [d])
    rw [chainL_flat cs]
    show (l.flatMap fun d => if d = c.1 then c.2 else [d]).flatMap (fun d => chainL cs [d]) = _
    rw [List.flatMap_assoc]
    congr 1
    funext d
    rw [chainL_flat cs (sub1 c.1 c.2 [d])]
    simp [sub1]

/-- the signs of a name -/
noncomputable def Sg (l : List Nat) : Prop := ∀ d ∈ l, d = 38 ∨ d = 60 ∨ d = 62
noncomputable def escK (k d : Nat) : List Nat := if d = 38 then [38, 97, 109, 112, 59] else if d = 60 then (if k = 2 then [60] else [38, 108, 116, 59]) else if d = 62 then (if k = 4 then [62] else [38, 103, 116, 59]) else [d]
noncomputable def wrK (k : Nat) (l : List Nat) : List Nat := l.flatMap (escK k)

theorem chain_len (cs : List (Nat × List Nat)) (h38 : (chainL cs [38]).length ≤ 5) (h60 : (chainL cs [60]).length ≤ 5) (h62 : (chainL cs [62]).length ≤ 5) : ∀ l, Sg l → l.length ≤ 100 → (chainL cs l).length ≤ 1000 := by
  intro l hs hl
  have : ∀ l, Sg l → (l.flatMap fun d => chainL cs [d]).length ≤ 5 * l.length := by
    intro l
    induction l with
    | nil => intro _; simp
    | cons d l ih =>
      intro hs
      have := ih fun e he => hs e (List.mem_cons_of_mem _ he)
      have hd : (chainL cs [d]).length ≤ 5 := by
        rcases hs d (List.mem_cons_self ..) with rfl | rfl | rfl <;> assumption
      rw [List.flatMap_cons, List.length_append, List.length_cons]
      lia
  rw [chainL_flat]
  have := this l hs
  lia
theorem chain_eq (cs : List (Nat × List Nat)) (k : Nat) (h38 : chainL cs [38] = escK k 38) (h60 : chainL cs [60] = escK k 60) (h62 : chainL cs [62] = escK k 62) : ∀ l, Sg l → chainL cs l = wrK k l := by
  intro l hs
  rw [chainL_flat]
  unfold wrK
  induction l with
  | nil => rfl
  | cons d l ih =>
    rw [List.flatMap_cons, List.flatMap_cons, ih fun e he => hs e (List.mem_cons_of_mem _ he)]
    rcases hs d (List.mem_cons_self ..) with rfl | rfl | rfl
    · rw [h38]
    · rw [h60]
    · rw [h62]

theorem chainL_snoc (cs : List (Nat × List Nat)) (c : Nat) (z l : List Nat) : sub1 c z (chainL cs l) = chainL (cs ++ [(c, z)]) l := by
  unfold chainL
  rw [List.foldl_append]; rfl
theorem run_escape_cdata (K : Kx) (n : Bool) (l : List Nat) (h38 : 38 ∈ l) (hs : Sg l) (hl : l.length ≤ 100) : runF K nm_escape_cdata b_escape_cdata [.str n (St8 l)] = some (.str true (St8 (wrK 0 l))) := by
  have e : exL K b_escape_cdata [some (.str n (St8 (chainL [] l)))] = some (.ret (.str true (St8 (wrK 0 l))), [some (.str true (St8 (wrK 0 l)))]) := by
    show (exL K _ _).bind _ = _
    rw [esc_step K (c0 := 38) (z0 := [38, 97, 109, 112, 59]) (by decide +kernel) (by decide +kernel) (by decide +kernel) (chain_len _ (by decide +kernel) (by decide +kernel) (by decide +kernel) l hs hl) (by decide) (by rw [decide_eq_true (show 38 ∈ chainL [] l from h38), Bool.or_true]), chainL_snoc]
    rw [esc_step K (c0 := 60) (z0 := [38, 108, 116, 59]) (by decide +kernel) (by decide +kernel) (by decide +kernel) (chain_len _ (by decide +kernel) (by decide +kernel) (by decide +kernel) l hs hl) (by decide) (Bool.true_or _), chainL_snoc]
    rw [esc_step K (c0 := 62) (z0 := [38, 103, 116, 59]) (by decide +kernel) (by decide +kernel) (by decide +kernel) (chain_len _ (by decide +kernel) (by decide +kernel) (by decide +kernel) l hs hl) (by decide) (Bool.true_or _), chainL_snoc]
    rw [chain_eq _ 0 (by decide +kernel) (by decide +kernel) (by decide +kernel) l hs]
    rfl
  show (match exL K b_escape_cdata [some (.str n (St8 (chainL [] l)))] with | some (.ret v, _) => some v | _ => none) = _
  rw [e]
theorem run_escape_attrib (K : Kx) (n : Bool) (l : List Nat) (h38 : 38 ∈ l) (hs : Sg l) (hl : l.length ≤ 100) : runF K nm_escape_attrib b_escape_attrib [.str n (St8 l)] = some (.str true (St8 (wrK 1 l))) := by
  have e : exL K b_escape_attrib [some (.str n (St8 (chainL [] l)))] = some (.ret (.str true (St8 (wrK 1 l))), [some (.str true (St8 (wrK 1 l)))]) := by
    show (exL K _ _).bind _ = _
    rw [esc_step K (c0 := 38) (z0 := [38, 97, 109, 112, 59]) (by decide +kernel) (by decide +kernel) (by decide +kernel) (chain_len _ (by decide +kernel) (by decide +kernel) (by decide +kernel) l hs hl) (by decide) (by rw [decide_eq_true (show 38 ∈ chainL [] l from h38), Bool.or_true]), chainL_snoc]
    rw [esc_step K (c0 := 60) (z0 := [38, 108, 116, 59]) (by decide +kernel) (by decide +kernel) (by decide +kernel) (chain_len _ (by decide +kernel) (by decide +kernel) (by decide +kernel) l hs hl) (by decide) (Bool.true_or _), chainL_snoc]
    rw [esc_step K (c0 := 62) (z0 := [38, 103, 116, 59]) (by decide +kernel) (by decide +kernel) (by decide +kernel) (chain_len _ (by decide +kernel) (by decide +kernel) (by decide +kernel) l hs hl) (by decide) (Bool.true_or _), chainL_snoc]
    rw [esc_step K (c0 := 34) (z0 := [38, 113, 117, 111, 116, 59]) (by decide +kernel) (by decide +kernel) (by decide +kernel) (chain_len _ (by decide +kernel) (by decide +kernel) (by decide +kernel) l hs hl) (by decide) (Bool.true_or _), chainL_snoc]
    rw [esc_step K (c0 := 13) (z0 := [38, 35, 49, 51, 59]) (by decide +kernel) (by decide +kernel) (by decide +kernel) (chain_len _ (by decide +kernel) (by decide +kernel) (by decide +kernel) l hs hl) (by decide) (Bool.true_or _), chainL_snoc]
    rw [esc_step K (c0 := 10) (z0 := [38, 35, 49, 48, 59]) (by decide +kernel) (by decide +kernel) (by decide +kernel) (chain_len _ (by decide +kernel) (by decide +kernel) (by decide +kernel) l hs hl) (by decide) (Bool.true_or _), chainL_snoc]
    rw [esc_step K (c0 := 9) (z0 := [38, 35, 48, 57, 59]) (by decide +kernel) (by decide +kernel) (by decide +kernel) (chain_len _ (by decide +kernel) (by decide +kernel) (by decide +kernel) l hs hl) (by decide) (Bool.true_or _), chainL_snoc]
    rw [chain_eq _ 1 (by decide +kernel) (by decide +kernel) (by decide +kernel) l hs]
    rfl
  show (match exL K b_escape_attrib [some (.str n (St8 (chainL [] l)))] with | some (.ret v, _) => some v | _ => none) = _
  rw [e]
theorem run_escape_attrib_html (K : Kx) (n : Bool) (l : List Nat) (h38 : 38 ∈ l) (hs : Sg l) (hl : l.length ≤ 100) : runF K nm_escape_attrib_html b_escape_attrib_html [.str n (St8 l)] = some (.str true (St8 (wrK 2 l))) := by
  have e : exL K b_escape_attrib_html [some (.str n (St8 (chainL [] l)))] = some (.ret (.str true (St8 (wrK 2 l))), [some (.str true (St8 (wrK 2 l)))]) := by
    show (exL K _ _).bind _ = _
    rw [esc_step K (c0 := 38) (z0 := [38, 97, 109, 112, 59]) (by decide +kernel) (by decide +kernel) (by decide +kernel) (chain_len _ (by decide +kernel) (by decide +kernel) (by decide +kernel) l hs hl) (by decide) (by rw [decide_eq_true (show 38 ∈ chainL [] l from h38), Bool.or_true]), chainL_snoc]
    rw [esc_step K (c0 := 62) (z0 := [38, 103, 116, 59]) (by decide +kernel) (by decide +kernel) (by decide +kernel) (chain_len _ (by decide +kernel) (by decide +kernel) (by decide +kernel) l hs hl) (by decide) (Bool.true_or _), chainL_snoc]
    rw [esc_step K (c0 := 34) (z0 := [38, 113, 117, 111, 116, 59]) (by decide +kernel) (by decide +kernel) (by decide +kernel) (chain_len _ (by decide +kernel) (by decide +kernel) (by decide +kernel) l hs hl) (by decide) (Bool.true_or _), chainL_snoc]
    rw [chain_eq _ 2 (by decide +kernel) (by decide +kernel) (by decide +kernel) l hs]
    rfl
  show (match exL K b_escape_attrib_html [some (.str n (St8 (chainL [] l)))] with | some (.ret v, _) => some v | _ => none) = _
  rw [e]
theorem run_escape_cdata_c14n (K : Kx) (n : Bool) (l : List Nat) (h38 : 38 ∈ l) (hs : Sg l) (hl : l.length ≤ 100) : runF K nm_escape_cdata_c14n b_escape_cdata_c14n [.str n (St8 l)] = some (.str true (St8 (wrK 3 l))) := by
  have e : exL K b_escape_cdata_c14n [some (.str n (St8 (chainL [] l)))] = some (.ret (.str true (St8 (wrK 3 l))), [some (.str true (St8 (wrK 3 l)))]) := by
    show (exL K _ _).bind _ = _
    rw [esc_step K (c0 := 38) (z0 := [38, 97, 109, 112, 59]) (by decide +kernel) (by decide +kernel) (by decide +kernel) (chain_len _ (by decide +kernel) (by decide +kernel) (by decide +kernel) l hs hl) (by decide) (by rw [decide_eq_true (show 38 ∈ chainL [] l from h38), Bool.or_true]), chainL_snoc]
    rw [esc_step K (c0 := 60) (z0 := [38, 108, 116, 59]) (by decide +kernel) (by decide +kernel) (by decide +kernel) (chain_len _ (by decide +kernel) (by decide +kernel) (by decide +kernel) l hs hl) (by decide) (Bool.true_or _), chainL_snoc]
    rw [esc_step K (c0 := 62) (z0 := [38, 103, 116, 59]) (by decide +kernel) (by decide +kernel) (by decide +kernel) (chain_len _ (by decide +kernel) (by decide +kernel) (by decide +kernel) l hs hl) (by decide) (Bool.true_or _), chainL_snoc]
    rw [esc_step K (c0 := 13) (z0 := [38, 35, 120, 68, 59]) (by decide +kernel) (by decide +kernel) (by decide +kernel) (chain_len _ (by decide +kernel) (by decide +kernel) (by decide +kernel) l hs hl) (by decide) (Bool.true_or _), chainL_snoc]
    rw [chain_eq _ 3 (by decide +kernel) (by decide +kernel) (by decide +kernel) l hs]
    rfl
  show (match exL K b_escape_cdata_c14n [some (.str n (St8 (chainL [] l)))] with | some (.ret v, _) => some v | _ => none) = _
  rw [e]
theorem run_escape_attrib_c14n (K : Kx) (n : Bool) (l : List Nat) (h38 : 38 ∈ l) (hs : Sg l) (hl : l.length ≤ 100) : runF K nm_escape_attrib_c14n b_escape_attrib_c14n [.str n (St8 l)] = some (.str true (St8 (wrK 4 l))) := by
  have e : exL K b_escape_attrib_c14n [some (.str n (St8 (chainL [] l)))] = some (.ret (.str true (St8 (wrK 4 l))), [some (.str true (St8 (wrK 4 l)))]) := by
    show (exL K _ _).bind _ = _
    rw [esc_step K (c0 := 38) (z0 := [38, 97, 109, 112, 59]) (by decide +kernel) (by decide +kernel) (by decide +kernel) (chain_len _ (by decide +kernel) (by decide +kernel) (by decide +kernel) l hs hl) (by decide) (by rw [decide_eq_true (show 38 ∈ chainL [] l from h38), Bool.or_true]), chainL_snoc]
    rw [esc_step K (c0 := 60) (z0 := [38, 108, 116, 59]) (by decide +kernel) (by decide +kernel) (by decide +kernel) (chain_len _ (by decide +kernel) (by decide +kernel) (by decide +kernel) l hs hl) (by decide) (Bool.true_or _), chainL_snoc]
    rw [esc_step K (c0 := 34) (z0 := [38, 113, 117, 111, 116, 59]) (by decide +kernel) (by decide +kernel) (by decide +kernel) (chain_len _ (by decide +kernel) (by decide +kernel) (by decide +kernel) l hs hl) (by decide) (Bool.true_or _), chainL_snoc]
    rw [esc_step K (c0 := 9) (z0 := [38, 35, 120, 57, 59]) (by decide +kernel) (by decide +kernel) (by decide +kernel) (chain_len _ (by decide +kernel) (by decide +kernel) (by decide +kernel) l hs hl) (by decide) (Bool.true_or _), chainL_snoc]
    rw [esc_step K (c0 := 10) (z0 := [38, 35, 120, 65, 59]) (by decide +kernel) (by decide +kernel) (by decide +kernel) (chain_len _ (by decide +kernel) (by decide +kernel) (by decide +kernel) l hs hl) (by decide) (Bool.true_or _), chainL_snoc]
    rw [esc_step K (c0 := 13) (z0 := [38, 35, 120, 68, 59]) (by decide +kernel) (by decide +kernel) (by decide +kernel) (chain_len _ (by decide +kernel) (by decide +kernel) (by decide +kernel) l hs hl) (by decide) (Bool.true_or _), chainL_snoc]
    rw [chain_eq _ 4 (by decide +kernel) (by decide +kernel) (by decide +kernel) l hs]
    rfl
  show (match exL K b_escape_attrib_c14n [some (.str n (St8 (chainL [] l)))] with | some (.ret v, _) => some v | _ => none) = _
  rw [e]
end Mine

namespace Mine
open PySem PySem.W PySem.Calls PyProof.Rows PySem.Builtin PySem.Builtin.Str PySem.StrLaws

/-! steps -/
theorem ev_gcall {K : Kx} {p q : Nat} {id : Str} {args : XL} {σ : Sto} {vs : List V} {v : V} (h1 : evL K args σ = some vs) (h3 : K.F id (vs.map freeze) = some v) (h2 : argsFine vs = true) (h4 : (v.plain && (!anyOwn vs || scal v)) = true) :
    ev K (.gcall p q id args) false σ = some v := by
  rw [evE_gcall, h1]
  show (if argsFine vs = true then (K.F id (vs.map freeze)).bind fun v => if (v.plain && (!anyOwn vs || scal v)) = true then some v else none else none) = _
  rw [if_pos h2, h3]
  exact if_pos h4
theorem ev_gcallT {K : Kx} {p q : Nat} {id : Str} {args : XL} {σ : Sto} {vs : List V} {v : V} (h1 : evL K args σ = some vs) (h3 : K.F id (vs.map freeze) = some v) (h2 : argsFine vs = true) (h4 : (v.plain && (!anyOwn vs || scal v)) = true) :
    ev K (.gcall p q id args) true σ = (truthV v).map V.bool := by
  have := ev_gcall (p := p) (q := q) h1 h3 h2 h4
  rw [evE_gcall, tm_false] at this
  rw [evE_gcall, this]
  rfl
theorem exL_ret {K : Kx} {p : Nat} {x : X} {xs : SL} {σ : Sto} {v : V} (h : ev K x false σ = some v) (hp : v.plain = true) : exL K (.cons (.ret p x) xs) σ = some (.ret v, σ) := by
  rw [exL_cons, exS_ret, h]
  show Option.bind (if v.plain = true then some (Fl.ret v, σ) else none) _ = _
  rw [if_pos hp]; rfl
theorem exL_iffF {K : Kx} {p : Nat} {c : X} {a b xs : SL} {σ σ' : Sto} (h : evT K c σ = some false) (hb : exL K b σ = some (.next, σ')) : exL K (.cons (.iff p c a b) xs) σ = exL K xs σ' := by
  refine exL_next ?_
  rw [exS_iff, h]; exact hb
theorem exL_iffT {K : Kx} {p : Nat} {c : X} {a b xs : SL} {σ σ' : Sto} (h : evT K c σ = some true) (hb : exL K a σ = some (.next, σ')) : exL K (.cons (.iff p c a b) xs) σ = exL K xs σ' := by
  refine exL_next ?_
  rw [exS_iff, h]; exact hb
theorem exL_iffR {K : Kx} {p : Nat} {c : X} {a b xs : SL} {σ σ' : Sto} {v : V} (h : evT K c σ = some true) (hb : exL K a σ = some (.ret v, σ')) : exL K (.cons (.iff p c a b) xs) σ = some (.ret v, σ') := by
  rw [exL_cons, exS_iff, h]
  show (exL K a σ).bind _ = _
  rw [hb]; rfl
theorem exL_asg {K : Kx} {p q i : Nat} {x : X} {xs : SL} {σ σ' : Sto} {v : V} (h : ev K x false σ = some v) (hp : putV i v σ = some σ') : exL K (.cons (.asg p q i x) xs) σ = exL K xs σ' := by
  refine exL_next ?_
  rw [exS_asg, h]
  show (putV i v σ).map _ = _
  rw [hp]; rfl
theorem runF_of {K : Kx} {nm : List Str} {b : SL} {vs : List V} {v : V} {σ : Sto} (h : exL K b (vs.map some ++ List.replicate (nm.length - vs.length) none) = some (.ret v, σ)) : runF K nm b vs = some v := by
  unfold runF; rw [h]
theorem tabF_at {K : Kx} {F : Str} {nm : List Str} {b : SL} {k : Nat} {vs : List V} {v : V} : ∀ {L : List Ent}, (L.find? fun e => F == e.1) = some (F, nm, b, k) → vs.length = k → runF K nm b vs = some v → tabF K L F vs = some v
  | [], h, _, _ => by cases h
  | (F', nm', b', k') :: L, h, hl, hr => by
    unfold tabF
    rw [List.find?_cons] at h
    cases hF : F == F' with
    | true =>
      rw [hF] at h
      cases h
      rw [if_pos rfl, if_pos (beq_iff_eq.mpr hl), hr]
    | false =>
      rw [hF] at h
      rw [if_neg (by decide)]
      exact tabF_at (L := L) h hl hr
theorem tabF_none {K : Kx} {F : Str} {vs : List V} : ∀ {L : List Ent}, (L.all fun e => !(F == e.1)) = true → tabF K L F vs = none
  | [], _ => rfl
  | (F', nm', b', k') :: L, h => by
    rw [List.all_cons, Bool.and_eq_true] at h
    unfold tabF
    rw [if_neg (by rw [Bool.not_eq_true]; simpa using h.1)]
    exact tabF_none (L := L) h.2
theorem more_at {K : Kx} {F' : Str → List V → Option V} {G' : Str → V → Option (List V)} {F : Str} {vs : List V} {v : V} (h : F' F vs = some v) : (K.more F' G').F F vs = some v := by
  show (match F' F vs with | some v => some v | none => K.F F vs) = _
  rw [h]
theorem more_old {K : Kx} {F' : Str → List V → Option V} {G' : Str → V → Option (List V)} {F : Str} {vs : List V} {v : V} (h : F' F vs = none) (hk : K.F F vs = some v) : (K.more F' G').F F vs = some v := by
  show (match F' F vs with | some v => some v | none => K.F F vs) = _
  rw [h]; exact hk
theorem f1_at {K : Kx} {F : Str} {vs : List V} {v : V} (h : tabF K L1 F vs = some v) : f1 K F vs = some v := by
  unfold f1; rw [h]
theorem up2 {F : Str} {vs : List V} {v : V} (h : (L2.all fun e => !(F == e.1)) = true) (hk : K1.F F vs = some v) : K2.F F vs = some v := more_old (tabF_none h) hk
theorem up3 {F : Str} {vs : List V} {v : V} (h : (L3.all fun e => !(F == e.1)) = true) (hk : K2.F F vs = some v) : K3.F F vs = some v := more_old (tabF_none h) hk
theorem up4 {F : Str} {vs : List V} {v : V} (h : (L4.all fun e => !(F == e.1)) = true) (hk : K3.F F vs = some v) : K4.F F vs = some v := more_old (tabF_none h) hk

/-! what is written -/
theorem K1_esc {F : Str} {nm : List Str} {b : SL} {k : Nat} {vs : List V} {v : V} (h : (L1.find? fun e => F == e.1) = some (F, nm, b, k)) (hl : vs.length = k) (hr : runF K0 nm b vs = some v) : K1.F F vs = some v := more_at (f1_at (tabF_at h hl hr))

theorem written_run (k : Nat) (hk : k < 5) (n : Bool) (l : List Nat) (h38 : 38 ∈ l) (hs : Sg l) (hl : l.length ≤ 100) : runF K1 nm_law_written b_law_written [.int k, .str n (St8 l)] = some (.str true (St8 (wrK k l))) := by
  have hk' : k = 0 ∨ k = 1 ∨ k = 2 ∨ k = 3 ∨ k = 4 := by lia
  rcases hk' with rfl | rfl | rfl | rfl | rfl
  · refine runF_of (σ := [some (.int 0), some (.str n (St8 l))]) ?_
    refine exL_iffR (v := (.str true (St8 (wrK 0 l)))) rfl (exL_ret (ev_gcall (vs := [.str n (St8 l)]) rfl (K1_esc rfl rfl (run_escape_cdata K0 n l h38 hs hl)) rfl rfl) rfl)
  · refine runF_of (σ := [some (.int 1), some (.str n (St8 l))]) ?_
    refine (exL_iffF rfl rfl).trans ?_
    refine exL_iffR (v := (.str true (St8 (wrK 1 l)))) rfl (exL_ret (ev_gcall (vs := [.str n (St8 l)]) rfl (K1_esc rfl rfl (run_escape_attrib K0 n l h38 hs hl)) rfl rfl) rfl)
  · refine runF_of (σ := [some (.int 2), some (.str n (St8 l))]) ?_
    refine (exL_iffF rfl rfl).trans ?_
    refine (exL_iffF rfl rfl).trans ?_
    refine exL_iffR (v := (.str true (St8 (wrK 2 l)))) rfl (exL_ret (ev_gcall (vs := [.str n (St8 l)]) rfl (K1_esc rfl rfl (run_escape_attrib_html K0 n l h38 hs hl)) rfl rfl) rfl)
  · refine runF_of (σ := [some (.int 3), some (.str n (St8 l))]) ?_
    refine (exL_iffF rfl rfl).trans ?_
    refine (exL_iffF rfl rfl).trans ?_
    refine (exL_iffF rfl rfl).trans ?_
    refine exL_iffR (v := (.str true (St8 (wrK 3 l)))) rfl (exL_ret (ev_gcall (vs := [.str n (St8 l)]) rfl (K1_esc rfl rfl (run_escape_cdata_c14n K0 n l h38 hs hl)) rfl rfl) rfl)
  · refine runF_of (σ := [some (.int 4), some (.str n (St8 l))]) ?_
    refine (exL_iffF rfl rfl).trans ?_
    refine (exL_iffF rfl rfl).trans ?_
    refine (exL_iffF rfl rfl).trans ?_
    refine (exL_iffF rfl rfl).trans ?_
    exact exL_ret (ev_gcall (vs := [.str n (St8 l)]) rfl (K1_esc rfl rfl (run_escape_attrib_c14n K0 n l h38 hs hl)) rfl rfl) rfl

theorem written_K2 (k : Nat) (hk : k < 5) (n : Bool) (l : List Nat) (h38 : 38 ∈ l) (hs : Sg l) (hl : l.length ≤ 100) : K2.F "_law_written" [.int k, .str n (St8 l)] = some (.str true (St8 (wrK k l))) :=
  more_at (tabF_at (L := L2) rfl rfl (written_run k hk n l h38 hs hl))

theorem spell_all (k : Nat) : ∀ l, Sg l → spellL (dueOf k) l = some (l.map fun d => St8 (escK k d))
  | [], _ => rfl
  | d :: l, hs => by
    have ih := spell_all k l fun e he => hs e (List.mem_cons_of_mem _ he)
    have hd : (dueOf k).lookup (⟨#[d]⟩ : Str) = some (St8 (escK k d)) := by
      rcases hs d (List.mem_cons_self ..) with rfl | rfl | rfl
      · rfl
      · by_cases h2 : k = 2
        · subst h2; rfl
        · have : ((k : Int) == 2) = false := by simp; lia
          unfold dueOf
          rw [this]
          unfold escK
          rw [if_neg (show ¬ (60 : Nat) = 38 by decide), if_pos rfl, if_neg h2]
          rfl
      · by_cases h4 : k = 4
        · subst h4; rfl
        · have : ((k : Int) == 4) = false := by simp; lia
          unfold dueOf
          rw [this]
          unfold escK
          rw [if_neg (show ¬ (62 : Nat) = 38 by decide), if_neg (show ¬ (62 : Nat) = 60 by decide), if_pos rfl, if_neg h4]
          rfl
    unfold spellL
    rw [hd, ih]
    rfl
theorem join_flat (f : Nat → List Nat) : ∀ l : List Nat, Str.join "" (l.map fun d => St8 (f d)) = St8 (l.flatMap f)
  | [] => rfl
  | [d] => by simp [Str.join]
  | d :: e :: l => by
    have ih := join_flat f (e :: l)
    show St8 (f d) ++ ("" : Str) ++ Str.join "" ((e :: l).map fun d => St8 (f d)) = _
    rw [ih, show ("" : Str) = St8 [] from rfl, st_app, st_app, List.append_nil]
    rfl
theorem spelled_run (k : Nat) (l : List Nat) (hs : Sg l) (hl : l.length ≤ 100) : spF [.int k, .str true (St8 l)] = some (.str false (St8 (wrK k l))) := by
  have e : ∀ l, Sg l → ((l.map fun d => St8 (escK k d)).map (fun s : Str => s.length)).sum ≤ 5 * l.length := by
    intro l
    induction l with
    | nil => intro _; exact Nat.le_refl _
    | cons d l ih =>
      intro hs
      have := ih fun e he => hs e (List.mem_cons_of_mem _ he)
      have hd : (St8 (escK k d)).length ≤ 5 := by
        rw [st_len]
        rcases hs d (List.mem_cons_self ..) with rfl | rfl | rfl
        · exact Nat.le_refl 5
        · unfold escK
          rw [if_neg (show ¬ (60 : Nat) = 38 by decide), if_pos rfl]
          split <;> decide
        · unfold escK
          rw [if_neg (show ¬ (62 : Nat) = 38 by decide), if_neg (show ¬ (62 : Nat) = 60 by decide), if_pos rfl]
          split <;> decide
      simp only [List.map_cons, List.sum_cons, List.length_cons]
      lia
  show (match spellL (dueOf k) (St8 l).cps.toList with
    | some (ys : List Str) => if ((St8 l).length ≤ lim && decide ((ys.map fun s : Str => s.length).sum + ys.length * Str.length "" ≤ lim)) = true then some (V.str false (Txt.join "" ys)) else none
    | none => none) = _
  rw [st_list, spell_all k l hs]
  have h0 : Str.length "" = 0 := rfl
  have hlim : lim = 100000 := rfl
  have := e l hs
  show (if ((St8 l).length ≤ lim && decide (((l.map fun d => St8 (escK k d)).map fun s : Str => s.length).sum + (l.map fun d => St8 (escK k d)).length * Str.length "" ≤ lim)) = true then some (V.str false (Txt.join "" (l.map fun d => St8 (escK k d)))) else none) = _
  rw [if_pos]
  · unfold Txt.join
    rw [glued_eq_join, join_flat]; rfl
  · rw [Bool.and_eq_true, decide_eq_true_eq, decide_eq_true_eq, st_len, h0]
    lia
theorem spelled_K1 (k : Nat) (l : List Nat) (hs : Sg l) (hl : l.length ≤ 100) : K1.F "_law_spelled" [.int k, .str true (St8 l)] = some (.str false (St8 (wrK k l))) := by
  refine more_at ?_
  unfold f1
  rw [tabF_none (by decide +kernel)]
  exact spelled_run k l hs hl

end Mine

namespace Mine
open PySem PySem.W PySem.Calls PyProof.Rows PySem.Builtin PySem.Builtin.Str PySem.StrLaws

/-! a text cut at its three dots -/
noncomputable abbrev D3 : List Nat := [46, 46, 46]
noncomputable def jn : List (List Nat) → List Nat
  | [] => []
  | [p] => p
  | p :: q :: r => p ++ D3 ++ jn (q :: r)

theorem at_st {x y : List Nat} {hi k : Nat} : At (St8 x) (St8 y) hi k ↔ k + y.length ≤ hi ∧ (x.drop k).take y.length = y := by
  unfold At
  rw [st_len, subAt_eq, st_list, st_list, st_len, beq_iff_eq]
theorem at_first {x y : List Nat} {c : Nat} {hi k : Nat} (h : At (St8 x) (St8 (c :: y)) hi k) : x[k]? = some c := by
  have e := (at_st.mp h).2
  have : (x.drop k)[0]? = some c := by
    have h2 : ((x.drop k).take (c :: y).length)[0]? = some c := by rw [e]; rfl
    rwa [List.getElem?_take_of_lt (by simp)] at h2
  rwa [List.getElem?_drop] at this

theorem chain_parts : ∀ (parts : List (List Nat)) (pre : List Nat) (cuts : List Nat) (f : Nat), parts ≠ [] → (∀ p ∈ parts, 46 ∉ p) → ChainG (St8 (pre ++ jn parts)) (St8 D3) (pre ++ jn parts).length pre.length cuts f →
    (∀ k, f ≤ k → ¬ At (St8 (pre ++ jn parts)) (St8 D3) (pre ++ jn parts).length k) → partsFrom (St8 (pre ++ jn parts)) 3 pre.length cuts = parts.map fun p => St8 p
  | [], _, _, _, h, _, _, _ => absurd rfl h
  | [p], pre, cuts, f, _, hd, hc, hn => by
    cases cuts with
    | nil =>
      show [strSub (St8 (pre ++ p)) pre.length (St8 (pre ++ p)).length] = [St8 p]
      congr 1
      apply Str.ext'
      apply Array.toList_inj.mp
      rw [strSub_toList, st_list, st_list, st_len, List.drop_left, List.length_append, Nat.add_sub_cancel_left, List.take_length]
    | cons c r =>
      exfalso
      have h1 := at_first hc.2.1
      have h2 : (pre ++ p)[c]? = some 46 := h1
      rw [List.getElem?_append_right hc.1] at h2
      exact hd p (List.mem_singleton.mpr rfl) (List.mem_of_getElem? h2)
  | p :: q :: r, pre, cuts, f, _, hd, hc, hn => by
    have hX : pre ++ jn (p :: q :: r) = (pre ++ p ++ D3) ++ jn (q :: r) := by show pre ++ (p ++ D3 ++ jn (q :: r)) = _; simp
    have h0 : At (St8 (pre ++ jn (p :: q :: r))) (St8 D3) (pre ++ jn (p :: q :: r)).length (pre.length + p.length) := by
      rw [at_st, hX]
      refine ⟨by simp only [List.length_append, List.length_cons, List.length_nil]; lia, ?_⟩
      rw [List.append_assoc, List.append_assoc, ← List.append_assoc pre p, ← List.length_append, List.drop_left]
      exact List.take_left (l₁ := D3)
    have hlow : ∀ k, pre.length ≤ k → k < pre.length + p.length → ¬ At (St8 (pre ++ jn (p :: q :: r))) (St8 D3) (pre ++ jn (p :: q :: r)).length k := fun k h1 h2 hA => by
      have h3 := at_first hA
      rw [List.getElem?_append_right h1] at h3
      have h4 : (p ++ D3 ++ jn (q :: r))[k - pre.length]? = some 46 := h3
      rw [List.append_assoc, List.getElem?_append_left (by lia)] at h4
      exact hd p (List.mem_cons_self ..) (List.mem_of_getElem? h4)
    cases cuts with
    | nil =>
      have : f = pre.length := hc
      exact absurd h0 (hn _ (by lia))
    | cons c r' =>
      obtain ⟨h1, h2, h3, h4⟩ := hc
      have hcc : c = pre.length + p.length := by
        rcases Nat.lt_trichotomy c (pre.length + p.length) with z | z | z
        · exact absurd h2 (hlow c h1 z)
        · exact z
        · exact absurd h0 (h3 _ (by lia) z)
      subst hcc
      have hl : (pre ++ p ++ D3).length = pre.length + p.length + 3 := by simp only [List.length_append, List.length_cons, List.length_nil]
      have ih := chain_parts (q :: r) (pre ++ p ++ D3) r' f (by simp) (fun a ha => hd a (List.mem_cons_of_mem _ ha)) (by rw [← hX, hl]; exact h4) (by rw [← hX]; exact hn)
      rw [← hX, hl] at ih
      show strSub (St8 (pre ++ jn (p :: q :: r))) pre.length (pre.length + p.length) :: partsFrom _ 3 (pre.length + p.length + 3) r' = _
      rw [ih, List.map_cons]
      congr 1
      apply Str.ext'
      apply Array.toList_inj.mp
      rw [strSub_toList, st_list, st_list, hX, List.append_assoc, List.append_assoc, List.drop_left, Nat.add_sub_cancel_left, List.take_left]

theorem split_parts (parts : List (List Nat)) (h : parts ≠ []) (hd : ∀ p ∈ parts, 46 ∉ p) : splitS (St8 (jn parts)) (St8 D3) = parts.map fun p => St8 p := by
  obtain ⟨f, hG, hn⟩ := occ_tight (St8 (jn parts)) (St8 D3) (by decide)
  unfold splitS
  rw [partsBetween_eq]
  have e : (St8 (jn parts)).length = (jn parts).length := st_len _
  rw [e] at hG hn ⊢
  exact chain_parts parts [] _ f h hd hG hn

/-- where it is found first -/
theorem arr_head {α : Type} {arr : Array α} {a : α} (h : arr[0]? = some a) : ∃ r, arr.toList = a :: r := by
  obtain ⟨l⟩ := arr
  cases l with
  | nil => simp at h
  | cons b t => exact ⟨t, by simp at h; rw [h]⟩
theorem occ_head_gen (x y : Str) (lo hi n : Nat) (hl : 1 ≤ n) :
    (occurrences x y lo hi n = [] ∧ ∀ i, lo ≤ i → ¬ At x y hi i) ∨ ∃ i r, occurrences x y lo hi n = i :: r ∧ lo ≤ i ∧ At x y hi i ∧ ∀ k, lo ≤ k → k < i → ¬ At x y hi k := by
  have hmem : ∀ i ∈ List.range' lo (hi + 1 - lo), lo ≤ i := fun i hi => (List.mem_range'_1.mp hi).1
  rcases occ_first x y hi n hl _ lo hmem with ⟨h0, hn⟩ | ⟨pre, a, post, e, h0, ha, hn⟩
  · left
    refine ⟨by rw [occ_eq, h0], fun i hlo hA => hn i ?_ hA⟩
    have := hA.1
    exact List.mem_range'_1.mpr ⟨hlo, by lia⟩
  · right
    obtain ⟨r, hr⟩ := arr_head h0
    exact ⟨a, r, by rw [occ_eq, hr], (range'_split_from e).1, ha, fun k hk hka => hn k ((range'_split_from e).2 k hk hka)⟩

theorem occ_empty_free {x : List Nat} (h : 46 ∉ x) (n : Nat) (hn : 1 ≤ n) : occurrences (St8 x) (St8 D3) 0 (St8 x).length n = [] := by
  rcases occ_head_gen (St8 x) (St8 D3) 0 (St8 x).length n hn with ⟨h0, _⟩ | ⟨i, r, h0, _, hA, _⟩
  · exact h0
  · exact absurd (List.mem_of_getElem? (at_first hA)) h
theorem occ_some {x y : Str} {lo hi n k : Nat} (hn : 1 ≤ n) (hk : lo ≤ k) (hA : At x y hi k) : (occurrences x y lo hi n).isEmpty = false := by
  rcases occ_head_gen x y lo hi n hn with ⟨_, h1⟩ | ⟨i, r, h0, _⟩
  · exact absurd hA (h1 k hk)
  · rw [h0]; rfl

end Mine

namespace Mine
open PySem PySem.W PySem.Calls PyProof.Rows PySem.Builtin PySem.Builtin.Str PySem.StrLaws

noncomputable abbrev sf (l : List Nat) : V := .str false (St8 l)
theorem dots_eq : ("..." : Str) = St8 D3 := by decide +kernel

theorem kind_one (x : Str) : decide (PySem.Builtin.Str.strKind x < PySem.Builtin.Str.strKind (St8 D3)) = false := by
  have h1 : PySem.Builtin.Str.strKind (St8 D3) = 1 := by decide +kernel
  rw [h1, decide_eq_false_iff_not]
  unfold PySem.Builtin.Str.strKind
  split
  · lia
  · split <;> lia

theorem at_jn {p q : List Nat} {r : List (List Nat)} : At (St8 (jn (p :: q :: r))) (St8 D3) (St8 (jn (p :: q :: r))).length p.length := by
  rw [st_len, at_st]
  show p.length + 3 ≤ (p ++ D3 ++ jn (q :: r)).length ∧ ((p ++ D3 ++ jn (q :: r)).drop p.length).take 3 = D3
  refine ⟨by simp only [List.length_append, List.length_cons, List.length_nil]; lia, ?_⟩
  rw [List.append_assoc, List.drop_left]
  exact List.take_left (l₁ := D3)

theorem meth_split (n : Bool) (p q : List Nat) (r : List (List Nat)) (hd : ∀ a ∈ p :: q :: r, 46 ∉ a) (hl : (jn (p :: q :: r)).length ≤ 100000) :
    methV "split" (.str n (St8 (jn (p :: q :: r)))) [.str false "..."] = some (.lst ((p :: q :: r).map sf)) := by
  rw [dots_eq]
  show (if ((St8 (jn (p :: q :: r))).length ≤ lim && !((St8 D3).length == 0) && !(decide ((St8 (jn (p :: q :: r))).length < (St8 D3).length) || decide (PySem.Builtin.Str.strKind (St8 (jn (p :: q :: r))) < PySem.Builtin.Str.strKind (St8 D3)))
    && !(occurrences (St8 (jn (p :: q :: r))) (St8 D3) 0 (St8 (jn (p :: q :: r))).length ((St8 (jn (p :: q :: r))).length + 1)).isEmpty) = true then some (V.lst ((splitS (St8 (jn (p :: q :: r))) (St8 D3)).map (.str false))) else none) = _
  have h1 := (at_jn (p := p) (q := q) (r := r)).1
  rw [if_pos]
  · rw [split_parts _ (by simp) hd, List.map_map]; rfl
  · rw [kind_one, occ_some (Nat.le_add_left 1 _) (Nat.zero_le _) (at_jn (p := p) (q := q) (r := r))]
    have h2 : decide ((St8 (jn (p :: q :: r))).length < (St8 D3).length) = false := decide_eq_false (by lia)
    have h3 : decide ((St8 (jn (p :: q :: r))).length ≤ lim) = true := decide_eq_true (by rw [st_len]; exact hl)
    rw [h2, h3]
    rfl

theorem contains_free {x : List Nat} (h : 46 ∉ x) : Txt.contains (St8 x) "..." = false := by
  rw [dots_eq]
  unfold Txt.contains
  rw [occ_empty_free h 1 (Nat.le_refl _)]; rfl
theorem contains_jn {p q : List Nat} {r : List (List Nat)} : Txt.contains (St8 (jn (p :: q :: r))) "..." = true := by
  rw [dots_eq]
  unfold Txt.contains
  rw [occ_some (Nat.le_refl _) (Nat.zero_le _) (at_jn (p := p) (q := q) (r := r))]; rfl

/-- no dots: the same text -/
theorem em_plain (n m : Bool) (x y : List Nat) (h : 46 ∉ x) : runF K0 nm_ellipsis_match b_ellipsis_match [.str n (St8 x), .str m (St8 y)] = some (.bool (decide (x = y))) := by
  refine runF_of (σ := [some (.str n (St8 x)), some (.str m (St8 y)), none, none, none, none]) ?_
  have e : evT K0 (.cmp 78007078034 .NotIn (.gname 78007078022 "ELLIPSIS_MARKER") (.var 78030078034 0)) [some (.str n (St8 x)), some (.str m (St8 y)), none, none, none, none] = some true := by
    show some (!Txt.contains (St8 x) "...") = _
    rw [contains_free h]; rfl
  refine exL_iffR e (exL_ret ?_ rfl)
  show some (V.bool (St8 x == St8 y)) = _
  rw [st_beq]

end Mine

namespace Mine
open PySem PySem.W PySem.Calls PyProof.Rows PySem.Builtin PySem.Builtin.Str PySem.StrLaws

theorem atV_last (mid : List V) (x : V) : atV (mid ++ [x]) (-1) = some x := by
  unfold atV
  rw [if_pos (by decide), if_neg (by decide), if_pos (by simp only [List.length_append, List.length_singleton]; lia)]
  have : (-1 + ((mid ++ [x]).length : Int)).toNat = mid.length := by simp only [List.length_append, List.length_singleton]; lia
  rw [this, List.getElem?_append_right (Nat.le_refl _), Nat.sub_self]; rfl
theorem delAt_last (mid : List V) (x : V) : delAt (mid ++ [x]) (-1) = some mid := by
  unfold delAt
  rw [if_neg (by decide), if_pos (by decide)]
  cases mid with
  | nil => rfl
  | cons a m =>
    show some ((a :: m) ++ [x]).dropLast = _
    rw [List.dropLast_concat]
theorem truth_str {b : Bool} {L : List Nat} (h : L ≠ []) (hl : L.length ≤ 100000) : truthV (.str b (St8 L)) = some true := by
  show (if (St8 L).length ≤ lim then some (((St8 L).length : Int) != 0) else none) = _
  rw [st_len, if_pos (by exact hl)]
  have : L.length ≠ 0 := by intro e; exact h (List.eq_nil_of_length_eq_zero e)
  simp
  exact h
theorem plains_app {a b : List V} (ha : plains a = true) (hb : plains b = true) : plains (a ++ b) = true := by rw [plains_append, ha, hb]; rfl

theorem exL_iffE {K : Kx} {p : Nat} {c : X} {a b xs : SL} {σ σ' : Sto} {v : V} (h : evT K c σ = some false) (hb : exL K b σ = some (.ret v, σ')) : exL K (.cons (.iff p c a b) xs) σ = some (.ret v, σ') := by
  rw [exL_cons, exS_iff, h]
  show (exL K b σ).bind _ = _
  rw [hb]; rfl
noncomputable def tl : SL → SL | .nil => .nil | .cons _ xs => xs
noncomputable def tln : Nat → SL → SL | 0, b => b | n + 1, b => tln n (tl b)

noncomputable def emFor : S := match b_ellipsis_match with | .cons _ (.cons _ (.cons _ (.cons _ (.cons _ (.cons _ (.cons _ (.cons _ (.cons _ (.cons x _))))))))) => x | _ => sD
noncomputable def emRet : SL := match b_ellipsis_match with | .cons _ (.cons _ (.cons _ (.cons _ (.cons _ (.cons _ (.cons _ (.cons _ (.cons _ (.cons _ xs))))))))) => xs | _ => .nil

section
variable {n m : Bool} {want g L R : List Nat} {mid : List V}

/-- from the cut on -/
theorem em_cut (hc : Txt.contains (St8 want) "..." = true) (hsp : methV "split" (.str n (St8 want)) [.str false "..."] = some (.lst (sf L :: (mid ++ [sf R])))) (hm : plains mid = true) (hml : mid.length ≤ 100) (hL : L ≠ []) (hR : R ≠ []) (hg : g.length ≤ 10000) (hLl : L.length ≤ 10000) (hRl : R.length ≤ 10000) :
    runF K0 nm_ellipsis_match b_ellipsis_match [.str n (St8 want), .str m (St8 g)] =
      if Txt.startswith (St8 g) (St8 L) then (if Txt.endswith (St8 g) (St8 R) then (if (g.length : Int) - R.length < L.length then some (.bool false) else
        (match exL K0 (.cons emFor emRet) [some (.str n (St8 want)), some (.str m (St8 g)), some (.olst mid), some (.int L.length), some (.int (g.length - R.length)), some (sf R)] with | some (.ret v, _) => some v | _ => none)) else some (.bool false)) else some (.bool false) := by
  have hlim : lim = 100000 := rfl
  have hlen : (sf L :: (mid ++ [sf R])).length ≤ 102 := by simp only [List.length_cons, List.length_append, List.length_nil]; lia
  have hpl : plains (sf L :: (mid ++ [sf R])) = true := by
    show (true && plains (mid ++ [sf R])) = true
    rw [plains_app hm (by rfl)]; rfl
  have s1 : exL K0 b_ellipsis_match [some (.str n (St8 want)), some (.str m (St8 g)), none, none, none, none] = exL K0 (tln 1 b_ellipsis_match) [some (.str n (St8 want)), some (.str m (St8 g)), none, none, none, none] := by
    refine exL_iffF ?_ rfl
    show some (!Txt.contains (St8 want) "...") = _
    rw [hc]; rfl
  have s2 : exL K0 (tln 1 b_ellipsis_match) [some (.str n (St8 want)), some (.str m (St8 g)), none, none, none, none] =
      exL K0 (tln 2 b_ellipsis_match) [some (.str n (St8 want)), some (.str m (St8 g)), some (.olst (sf L :: (mid ++ [sf R]))), none, none, none] := by
    refine exL_next ?_
    rw [exS_asgOwn, show ev K0 _ false [some (.str n (St8 want)), some (.str m (St8 g)), none, none, none, none] = methV "split" (.str n (St8 want)) [.str false "..."] from rfl, hsp]
    show Option.map (fun σ => (Fl.next, σ)) (if (2 < 6 && plains (sf L :: (mid ++ [sf R])) && noOwn [some (.str n (St8 want)), some (.str m (St8 g)), none, none, none, none]) = true then some _ else none) = _
    rw [hpl]; rfl
  have s3 : exL K0 (tln 2 b_ellipsis_match) [some (.str n (St8 want)), some (.str m (St8 g)), some (.olst (sf L :: (mid ++ [sf R]))), none, none, none] =
      exL K0 (tln 3 b_ellipsis_match) [some (.str n (St8 want)), some (.str m (St8 g)), some (.olst (sf L :: (mid ++ [sf R]))), none, none, none] := by
    refine exL_next ?_
    rw [exS_assert]
    have e : evT K0 (.cmp 81011081023 .GtE (.bcall 81011081018 81011081014 "len" (.cons (.var 81015081017 2) .nil)) (.cint 81022081023 2)) [some (.str n (St8 want)), some (.str m (St8 g)), some (.olst (sf L :: (mid ++ [sf R]))), none, none, none] = some true := by
      have e1 : biV "len" [.olst (sf L :: (mid ++ [sf R]))] = some (.int ((sf L :: (mid ++ [sf R])).length : Nat)) := by
        show (if (sf L :: (mid ++ [sf R])).length ≤ lim then some (V.int _) else none) = _
        rw [if_pos (by lia)]
      show unB (((biV "len" [.olst (sf L :: (mid ++ [sf R]))]).bind fun x => (some (V.int 2)).bind fun y => (cmpV .GtE x y).map V.bool)) = _
      rw [e1]
      show some (decide ((2 : Int) ≤ _)) = _
      rw [decide_eq_true]
      simp only [List.length_cons, List.length_append, List.length_nil]; lia
    rw [show evT K0 _ _ = some true from e]
    rfl
  have s4 : exL K0 (tln 3 b_ellipsis_match) [some (.str n (St8 want)), some (.str m (St8 g)), some (.olst (sf L :: (mid ++ [sf R]))), none, none, none] =
      exL K0 (tln 4 b_ellipsis_match) [some (.str n (St8 want)), some (.str m (St8 g)), some (.olst (sf L :: (mid ++ [sf R]))), some (.int 0), some (.int g.length), none] := by
    refine exL_next ?_
    rw [exS_asg2]
    have e1 : ev K0 (.bcall 82027082035 82027082030 "len" (.cons (.var 82031082034 1) .nil)) false [some (.str n (St8 want)), some (.str m (St8 g)), some (.olst (sf L :: (mid ++ [sf R]))), none, none, none] = some (.int g.length) := by
      show (if (St8 g).length ≤ lim then some (V.int (St8 g).length) else none) = _
      rw [st_len, if_pos (by lia)]
    rw [e1]
    rfl
  have s5 : exL K0 (tln 4 b_ellipsis_match) [some (.str n (St8 want)), some (.str m (St8 g)), some (.olst (sf L :: (mid ++ [sf R]))), some (.int 0), some (.int g.length), none] =
      exL K0 (tln 5 b_ellipsis_match) [some (.str n (St8 want)), some (.str m (St8 g)), some (.olst (sf L :: (mid ++ [sf R]))), some (.int 0), some (.int g.length), some (sf L)] := rfl
  have tL : evT K0 (.var 84007084008 5) [some (.str n (St8 want)), some (.str m (St8 g)), some (.olst (sf L :: (mid ++ [sf R]))), some (.int 0), some (.int g.length), some (sf L)] = some true := by
    show unB ((truthV (sf L)).map V.bool) = _
    rw [truth_str hL (by lia)]; rfl
  show (match exL K0 b_ellipsis_match [some (.str n (St8 want)), some (.str m (St8 g)), none, none, none, none] with | some (.ret v, _) => some v | _ => none) = _
  rw [s1, s2, s3, s4, s5]
  cases hs : Txt.startswith (St8 g) (St8 L) with
  | false =>
    rw [show exL K0 (tln 5 b_ellipsis_match) [some (.str n (St8 want)), some (.str m (St8 g)), some (.olst (sf L :: (mid ++ [sf R]))), some (.int 0), some (.int g.length), some (sf L)] = some (.ret (.bool false), _) from exL_iffR tL (exL_iffE (v := .bool false) (by
      show some (Txt.startswith (St8 g) (St8 L)) = _
      rw [hs]) rfl)]
    rfl
  | true =>
    have eL : ev K0 (.bcall 86023086029 86023086026 "len" (.cons (.var 86027086028 5) .nil)) false [some (.str n (St8 want)), some (.str m (St8 g)), some (.olst (sf L :: (mid ++ [sf R]))), some (.int 0), some (.int g.length), some (sf L)] = some (.int L.length) := by
      show (if (St8 L).length ≤ lim then some (V.int (St8 L).length) else none) = _
      rw [st_len, if_pos (by lia)]
    have s6 : exL K0 (tln 5 b_ellipsis_match) [some (.str n (St8 want)), some (.str m (St8 g)), some (.olst (sf L :: (mid ++ [sf R]))), some (.int 0), some (.int g.length), some (sf L)] =
        exL K0 (tln 6 b_ellipsis_match) [some (.str n (St8 want)), some (.str m (St8 g)), some (.olst (mid ++ [sf R])), some (.int L.length), some (.int g.length), some (sf L)] := by
      refine exL_iffT tL ((exL_iffT (by
        show some (Txt.startswith (St8 g) (St8 L)) = _
        rw [hs]) ((exL_asg eL rfl).trans (exL_next ?_))).trans rfl)
      rw [exS_del]
      show (if lim < (sf L :: (mid ++ [sf R])).length then none else some _) = _
      rw [if_neg (by lia)]
      rfl
    have s7 : exL K0 (tln 6 b_ellipsis_match) [some (.str n (St8 want)), some (.str m (St8 g)), some (.olst (mid ++ [sf R])), some (.int L.length), some (.int g.length), some (sf L)] =
        exL K0 (tln 7 b_ellipsis_match) [some (.str n (St8 want)), some (.str m (St8 g)), some (.olst (mid ++ [sf R])), some (.int L.length), some (.int g.length), some (sf R)] := by
      refine exL_asg (v := sf R) ?_ rfl
      show atV (mid ++ [sf R]) (-1) = _
      exact atV_last _ _
    have tR : evT K0 (.var 91007091008 5) [some (.str n (St8 want)), some (.str m (St8 g)), some (.olst (mid ++ [sf R])), some (.int L.length), some (.int g.length), some (sf R)] = some true := by
      show unB ((truthV (sf R)).map V.bool) = _
      rw [truth_str hR (by lia)]; rfl
    have eR : ev K0 (.bcall 93022093028 93022093025 "len" (.cons (.var 93026093027 5) .nil)) false [some (.str n (St8 want)), some (.str m (St8 g)), some (.olst (mid ++ [sf R])), some (.int L.length), some (.int g.length), some (sf R)] = some (.int R.length) := by
      show (if (St8 R).length ≤ lim then some (V.int (St8 R).length) else none) = _
      rw [st_len, if_pos (by lia)]
    rw [s6, s7, if_pos rfl]
    cases he : Txt.endswith (St8 g) (St8 R) with
    | false =>
      rw [show exL K0 (tln 7 b_ellipsis_match) [some (.str n (St8 want)), some (.str m (St8 g)), some (.olst (mid ++ [sf R])), some (.int L.length), some (.int g.length), some (sf R)] = some (.ret (.bool false), _) from exL_iffR tR (exL_iffE (v := .bool false) (by
        show some (Txt.endswith (St8 g) (St8 R)) = _
        rw [he]) rfl)]
      rfl
    | true =>
      have s8 : exL K0 (tln 7 b_ellipsis_match) [some (.str n (St8 want)), some (.str m (St8 g)), some (.olst (mid ++ [sf R])), some (.int L.length), some (.int g.length), some (sf R)] =
          exL K0 (tln 8 b_ellipsis_match) [some (.str n (St8 want)), some (.str m (St8 g)), some (.olst mid), some (.int L.length), some (.int (g.length - R.length)), some (sf R)] := by
        refine exL_iffT tR ((exL_iffT (by
          show some (Txt.endswith (St8 g) (St8 R)) = _
          rw [he]) ((exL_next (σ' := [some (.str n (St8 want)), some (.str m (St8 g)), some (.olst (mid ++ [sf R])), some (.int L.length), some (.int (g.length - R.length)), some (sf R)]) ?_).trans (exL_next ?_))).trans rfl)
        · rw [exS_aug]
          show (Option.bind (ev K0 (.bcall 93022093028 93022093025 "len" (.cons (.var 93026093027 5) .nil)) false _) _) = _
          rw [eR]
          rfl
        · rw [exS_del]
          show (if lim < (mid ++ [sf R]).length then none else (delAt (mid ++ [sf R]) (-1)).map _) = _
          rw [if_neg (by simp only [List.length_append, List.length_cons, List.length_nil]; lia), delAt_last]
          rfl
      rw [s8, if_pos rfl]
      have e9 : evT K0 (.cmp 97007097024 .Gt (.var 97007097015 3) (.var 97018097024 4)) [some (.str n (St8 want)), some (.str m (St8 g)), some (.olst mid), some (.int L.length), some (.int (g.length - R.length)), some (sf R)] = some (decide ((g.length : Int) - R.length < L.length)) := rfl
      by_cases hle : (g.length : Int) - R.length < L.length
      · rw [if_pos hle]
        rw [decide_eq_true hle] at e9
        rw [show exL K0 (tln 8 b_ellipsis_match) [some (.str n (St8 want)), some (.str m (St8 g)), some (.olst mid), some (.int L.length), some (.int (g.length - R.length)), some (sf R)] = some (.ret (.bool false), _) from exL_iffR (v := .bool false) e9 rfl]
      · rw [if_neg hle]
        rw [decide_eq_false hle] at e9
        rw [show exL K0 (tln 8 b_ellipsis_match) [some (.str n (St8 want)), some (.str m (St8 g)), some (.olst mid), some (.int L.length), some (.int (g.length - R.length)), some (sf R)] = exL K0 (.cons emFor emRet) _ from exL_iffF e9 rfl]
end
end Mine

namespace Mine
open PySem PySem.W PySem.Calls PyProof.Rows PySem.Builtin PySem.Builtin.Str PySem.StrLaws

theorem starts_st (g L : List Nat) : Txt.startswith (St8 g) (St8 L) = decide (L <+: g) := by
  rw [Bool.eq_iff_iff, decide_eq_true_eq]
  show (0 + (St8 L).length ≤ (St8 g).length && subAt (St8 g) (St8 L) 0) = true ↔ _
  rw [Bool.and_eq_true, decide_eq_true_eq, subAt_eq, st_list, st_list, st_len, st_len, List.drop_zero, beq_iff_eq, List.prefix_iff_eq_take]
  constructor
  · intro h; exact h.2.symm
  · intro h
    refine ⟨?_, h.symm⟩
    have := congrArg List.length h
    rw [List.length_take] at this
    lia
theorem ends_app (G R : List Nat) : Txt.endswith (St8 (G ++ R)) (St8 R) = true := by
  show (0 + (St8 R).length ≤ (St8 (G ++ R)).length && subAt (St8 (G ++ R)) (St8 R) ((St8 (G ++ R)).length - (St8 R).length)) = true
  rw [Bool.and_eq_true, decide_eq_true_eq, subAt_eq, st_list, st_list, st_len, st_len, List.length_append, Nat.add_sub_cancel, List.drop_left, List.take_length, beq_iff_eq]
  exact ⟨by lia, rfl⟩

theorem jn2_len (L R : List Nat) : (jn [L, R]).length = L.length + 3 + R.length := by
  show (L ++ D3 ++ R).length = _
  simp only [List.length_append, List.length_cons, List.length_nil]

theorem em_two (n m : Bool) (L R G : List Nat) (dL : 46 ∉ L) (dR : 46 ∉ R) (hL : L ≠ []) (hR : R ≠ []) (lL : L.length ≤ 1000) (lR : R.length ≤ 1000) (lG : G.length ≤ 1000) :
    runF K0 nm_ellipsis_match b_ellipsis_match [.str n (St8 (jn [L, R])), .str m (St8 (G ++ R))] = some (.bool (decide (L <+: G))) := by
  have hd : ∀ a ∈ [L, R], 46 ∉ a := by
    intro a ha
    rcases List.mem_cons.mp ha with rfl | ha
    · exact dL
    · rw [List.mem_singleton.mp ha]; exact dR
  rw [em_cut (L := L) (R := R) (mid := []) contains_jn (meth_split n L R [] hd (by rw [jn2_len]; lia)) rfl (by decide) hL hR (by rw [List.length_append]; lia) (by lia) (by lia)]
  rw [starts_st, ends_app, if_pos rfl]
  have hE : (((G ++ R).length : Int) - R.length < L.length) ↔ ¬ (L.length ≤ G.length) := by rw [List.length_append]; lia
  by_cases h : L <+: G
  · have h1 : L <+: G ++ R := h.trans (List.prefix_append G R)
    rw [decide_eq_true h, decide_eq_true h1, if_pos rfl, if_neg (by rw [hE, Classical.not_not]; exact h.length_le)]
    rfl
  · rw [decide_eq_false h]
    by_cases h1 : L <+: G ++ R
    · have : ¬ L.length ≤ G.length := fun hle => h (List.prefix_of_prefix_length_le h1 (List.prefix_append G R) hle)
      rw [decide_eq_true h1, if_pos rfl, if_pos (hE.mpr this)]
    · rw [decide_eq_false h1]; rfl

/-! find -/
theorem fromIndex_nat (n k : Nat) : fromIndex n (k : Int) = k := by unfold fromIndex; rw [if_neg (by lia)]; lia
theorem findS_at {g A : List Nat} {lo j : Nat} (hj : j ≤ g.length) (h : At (St8 g) (St8 A) j lo) : findS (St8 g) (St8 A) lo j = lo := by
  unfold findS
  rw [fromIndex_nat, fromIndex_nat, st_len, Nat.min_eq_left hj]
  rcases occ_head_gen (St8 g) (St8 A) lo j 1 (Nat.le_refl _) with ⟨_, hn⟩ | ⟨i, r, h0, h1, h2, h3⟩
  · exact absurd h (hn lo (Nat.le_refl _))
  · rw [h0]
    have : i = lo := by
      rcases Nat.lt_or_ge lo i with z | z
      · exact absurd h (h3 lo (Nat.le_refl _) z)
      · lia
    rw [this]
theorem findS_none {g A : List Nat} {lo j : Nat} (hj : j ≤ g.length) (h : ∀ k, lo ≤ k → ¬ At (St8 g) (St8 A) j k) : findS (St8 g) (St8 A) lo j = -1 := by
  unfold findS
  rw [fromIndex_nat, fromIndex_nat, st_len, Nat.min_eq_left hj]
  rcases occ_head_gen (St8 g) (St8 A) lo j 1 (Nat.le_refl _) with ⟨h0, _⟩ | ⟨i, r, h0, h1, h2, h3⟩
  · rw [h0]
  · exact absurd h2 (h i h1)
theorem findS_some {g A : List Nat} {lo j k : Nat} (hj : j ≤ g.length) (hk : lo ≤ k) (h : At (St8 g) (St8 A) j k) : ∃ i : Nat, findS (St8 g) (St8 A) lo j = i := by
  unfold findS
  rw [fromIndex_nat, fromIndex_nat, st_len, Nat.min_eq_left hj]
  rcases occ_head_gen (St8 g) (St8 A) lo j 1 (Nat.le_refl _) with ⟨_, hn⟩ | ⟨i, r, h0, _⟩
  · exact absurd h (hn k hk)
  · rw [h0]; exact ⟨i, rfl⟩

noncomputable def emBody : SL := match emFor with | .forr _ _ _ b _ => b | _ => .nil
theorem emFor_eq : emFor = .forr 99004103026 (.t1 99008099009 5) (.own 99013099015 2) emBody .nil := rfl

theorem small_nat {k : Nat} (h : k ≤ 100000) : smallI (k : Int) = true := by
  unfold smallI
  rw [Bool.and_eq_true, decide_eq_true_eq, decide_eq_true_eq]
  lia
theorem meth_find {m b : Bool} {g A : List Nat} {i j : Nat} (hg : g.length ≤ 100000) (hi : i ≤ 100000) (hj : j ≤ 100000) : methV "find" (.str m (St8 g)) [.str b (St8 A), .int i, .int j] = some (.int (findS (St8 g) (St8 A) i j)) := by
  show (if ((St8 g).length ≤ lim && smallI i && smallI j) = true then some (V.int (findS (St8 g) (St8 A) i j)) else none) = _
  rw [small_nat hi, small_nat hj, decide_eq_true (by rw [st_len]; exact hg)]
  rfl

theorem emBody_found {m : Bool} {x0 x2 : Option V} {g A : List Nat} {i j k : Nat} (hg : g.length ≤ 100000) (hA : A.length ≤ 100000) (hi : i ≤ 100000) (hj : j ≤ 100000) (h : findS (St8 g) (St8 A) i j = k) :
    exL K0 emBody [x0, some (.str m (St8 g)), x2, some (.int i), some (.int j), some (sf A)] = some (.next, [x0, some (.str m (St8 g)), x2, some (.int (k + A.length : Nat)), some (.int j), some (sf A)]) := by
  have e1 : exL K0 emBody [x0, some (.str m (St8 g)), x2, some (.int i), some (.int j), some (sf A)] = exL K0 (tln 1 emBody) [x0, some (.str m (St8 g)), x2, some (.int k), some (.int j), some (sf A)] := by
    refine exL_asg (v := .int k) ?_ rfl
    show methV "find" (.str m (St8 g)) [.str false (St8 A), .int i, .int j] = _
    rw [meth_find hg hi hj, h]
  have e2 : exL K0 (tln 1 emBody) [x0, some (.str m (St8 g)), x2, some (.int k), some (.int j), some (sf A)] = exL K0 (tln 2 emBody) [x0, some (.str m (St8 g)), x2, some (.int k), some (.int j), some (sf A)] := by
    refine exL_iffF ?_ rfl
    show some (decide ((k : Int) < 0)) = _
    rw [decide_eq_false (by lia)]
  rw [e1, e2]
  have e3 : ev K0 (.bcall 103020103026 103020103023 "len" (.cons (.var 103024103025 5) .nil)) false [x0, some (.str m (St8 g)), x2, some (.int k), some (.int j), some (sf A)] = some (.int A.length) := by
    show (if (St8 A).length ≤ lim then some (V.int (St8 A).length) else none) = _
    rw [st_len, if_pos (by exact hA)]
  refine (exL_next (xs := .nil) (σ' := [x0, some (.str m (St8 g)), x2, some (.int (k + A.length : Nat)), some (.int j), some (sf A)]) ?_).trans rfl
  rw [exS_aug]
  show (Option.bind (ev K0 (.bcall 103020103026 103020103023 "len" (.cons (.var 103024103025 5) .nil)) false _) _) = _
  rw [e3]
  rfl
theorem emBody_lost {m : Bool} {x0 x2 : Option V} {g A : List Nat} {i j : Nat} (hg : g.length ≤ 100000) (hi : i ≤ 100000) (hj : j ≤ 100000) (h : findS (St8 g) (St8 A) i j = -1) :
    ∃ σ, exL K0 emBody [x0, some (.str m (St8 g)), x2, some (.int i), some (.int j), some (sf A)] = some (.ret (.bool false), σ) := by
  have e1 : exL K0 emBody [x0, some (.str m (St8 g)), x2, some (.int i), some (.int j), some (sf A)] = exL K0 (tln 1 emBody) [x0, some (.str m (St8 g)), x2, some (.int (-1)), some (.int j), some (sf A)] := by
    refine exL_asg (v := .int (-1)) ?_ rfl
    show methV "find" (.str m (St8 g)) [.str false (St8 A), .int i, .int j] = _
    rw [meth_find hg hi hj, h]
  rw [e1]
  exact ⟨_, exL_iffR (v := .bool false) rfl rfl⟩

theorem at_mid {X A Y : List Nat} {j : Nat} (hj : X.length + A.length ≤ j) : At (St8 (X ++ A ++ Y)) (St8 A) j X.length := by
  rw [at_st]
  refine ⟨hj, ?_⟩
  rw [List.append_assoc, List.drop_left, List.take_left]

theorem em_four (n m : Bool) (L R A rest : List Nat) (dL : 46 ∉ L) (dR : 46 ∉ R) (dA : 46 ∉ A) (hL : L ≠ []) (hR : R ≠ []) (hA : A ≠ []) (lL : L.length ≤ 1000) (lR : R.length ≤ 1000) (lA : A.length ≤ 1000) (lG : rest.length ≤ 1000)
    (hrest : rest = [] ∨ ∃ c r, rest = c ++ A ++ r) :
    runF K0 nm_ellipsis_match b_ellipsis_match [.str n (St8 (jn [L, A, A, R])), .str m (St8 (L ++ A ++ rest ++ R))] = some (.bool (decide (rest ≠ []))) := by
  have hd : ∀ a ∈ [L, A, A, R], 46 ∉ a := by
    intro a ha
    simp only [List.mem_cons, List.not_mem_nil, or_false] at ha
    rcases ha with rfl | rfl | rfl | rfl <;> assumption
  have hlen : (jn [L, A, A, R]).length ≤ 100000 := by
    show (L ++ D3 ++ (A ++ D3 ++ (A ++ D3 ++ R))).length ≤ _
    simp only [List.length_append, List.length_cons, List.length_nil]; lia
  have hgl : (L ++ A ++ rest ++ R).length = L.length + A.length + rest.length + R.length := by simp only [List.length_append]
  rw [em_cut (L := L) (R := R) (mid := [sf A, sf A]) contains_jn (meth_split n L A [A, R] hd hlen) rfl (show 2 ≤ 100 by decide) hL hR (by lia) (by lia) (by lia)]
  have h1 : L <+: L ++ A ++ rest ++ R := ⟨A ++ rest ++ R, by simp⟩
  rw [starts_st, ends_app, decide_eq_true h1, if_pos rfl, if_pos rfl, if_neg (by lia)]
  have hsub : ((L ++ A ++ rest ++ R).length : Int) - R.length = ((L.length + A.length + rest.length : Nat) : Int) := by lia
  rw [hsub]
  have hj : L.length + A.length + rest.length ≤ (L ++ A ++ rest ++ R).length := by lia
  have f1 : findS (St8 (L ++ A ++ rest ++ R)) (St8 A) L.length (L.length + A.length + rest.length : Nat) = (L.length : Nat) := by
    refine findS_at hj ?_
    rw [List.append_assoc (L ++ A)]
    exact at_mid (by lia)
  have b1 := emBody_found (m := m) (x0 := some (.str n (St8 (jn [L, A, A, R])))) (x2 := some (.lst [sf A, sf A])) (by lia) (by lia) (by lia) (by lia) f1
  rw [exL_cons, emFor_eq, exS_forOwn]
  have e0 : ownAt [some (.str n (St8 (jn [L, A, A, R]))), some (.str m (St8 (L ++ A ++ rest ++ R))), some (.olst [sf A, sf A]), some (.int L.length), some (.int (L.length + A.length + rest.length : Nat)), some (sf R)] 2 = some [sf A, sf A] := rfl
  rw [e0]
  rcases hrest with rfl | ⟨c, r, rfl⟩
  · have f2 : findS (St8 (L ++ A ++ [] ++ R)) (St8 A) (L.length + A.length : Nat) (L.length + A.length + ([] : List Nat).length : Nat) = -1 := by
      refine findS_none hj fun k hk hAt => ?_
      have h2 := hAt.1
      rw [st_len] at h2
      have : A.length ≠ 0 := fun e => hA (List.eq_nil_of_length_eq_zero e)
      have h3 : ([] : List Nat).length = 0 := rfl
      lia
    obtain ⟨σ, b2⟩ := emBody_lost (m := m) (x0 := some (.str n (St8 (jn [L, A, A, R])))) (x2 := some (.lst [sf A, sf A])) (g := L ++ A ++ [] ++ R) (by lia) (by lia) (by have h3 : ([] : List Nat).length = 0 := rfl; lia) f2
    have e : forL (putT 6 (.t1 99008099009 5)) (exL K0 emBody) (exL K0 .nil) [sf A, sf A] [some (.str n (St8 (jn [L, A, A, R]))), some (.str m (St8 (L ++ A ++ [] ++ R))), some (.lst [sf A, sf A]), some (.int L.length), some (.int (L.length + A.length + ([] : List Nat).length : Nat)), some (sf R)] = some (.ret (.bool false), σ) := by
      show Option.bind (exL K0 emBody [some (.str n (St8 (jn [L, A, A, R]))), some (.str m (St8 (L ++ A ++ [] ++ R))), some (.lst [sf A, sf A]), some (.int L.length), some (.int (L.length + A.length + ([] : List Nat).length : Nat)), some (sf A)]) _ = _
      rw [b1]
      show Option.bind (exL K0 emBody [some (.str n (St8 (jn [L, A, A, R]))), some (.str m (St8 (L ++ A ++ [] ++ R))), some (.lst [sf A, sf A]), some (.int (L.length + A.length : Nat)), some (.int (L.length + A.length + ([] : List Nat).length : Nat)), some (sf A)]) _ = _
      rw [b2]; rfl
    show (match (Option.bind (forL (putT 6 (.t1 99008099009 5)) (exL K0 emBody) (exL K0 .nil) [sf A, sf A] [some (.str n (St8 (jn [L, A, A, R]))), some (.str m (St8 (L ++ A ++ [] ++ R))), some (.lst [sf A, sf A]), some (.int L.length), some (.int (L.length + A.length + ([] : List Nat).length : Nat)), some (sf R)]) _ : Option (Fl × Sto)) with | some (.ret v, _) => some v | _ => none) = _
    rw [e]; rfl
  · obtain ⟨i, f2⟩ := findS_some (g := L ++ A ++ (c ++ A ++ r) ++ R) (A := A) (lo := L.length + A.length) (j := L.length + A.length + (c ++ A ++ r).length) (k := L.length + A.length + c.length) hj (by lia) (by
      have e : L ++ A ++ (c ++ A ++ r) ++ R = (L ++ A ++ c) ++ A ++ (r ++ R) := by simp
      rw [e, show L.length + A.length + c.length = (L ++ A ++ c).length by simp only [List.length_append]]
      exact at_mid (by simp only [List.length_append]; lia))
    have b2 := emBody_found (m := m) (x0 := some (.str n (St8 (jn [L, A, A, R])))) (x2 := some (.lst [sf A, sf A])) (g := L ++ A ++ (c ++ A ++ r) ++ R) (by lia) (by lia) (by lia) (by lia) f2
    have e : forL (putT 6 (.t1 99008099009 5)) (exL K0 emBody) (exL K0 .nil) [sf A, sf A] [some (.str n (St8 (jn [L, A, A, R]))), some (.str m (St8 (L ++ A ++ (c ++ A ++ r) ++ R))), some (.lst [sf A, sf A]), some (.int L.length), some (.int (L.length + A.length + (c ++ A ++ r).length : Nat)), some (sf R)] = some (.next, [some (.str n (St8 (jn [L, A, A, R]))), some (.str m (St8 (L ++ A ++ (c ++ A ++ r) ++ R))), some (.lst [sf A, sf A]), some (.int (i + A.length : Nat)), some (.int (L.length + A.length + (c ++ A ++ r).length : Nat)), some (sf A)]) := by
      show Option.bind (exL K0 emBody [some (.str n (St8 (jn [L, A, A, R]))), some (.str m (St8 (L ++ A ++ (c ++ A ++ r) ++ R))), some (.lst [sf A, sf A]), some (.int L.length), some (.int (L.length + A.length + (c ++ A ++ r).length : Nat)), some (sf A)]) _ = _
      rw [b1]
      show Option.bind (exL K0 emBody [some (.str n (St8 (jn [L, A, A, R]))), some (.str m (St8 (L ++ A ++ (c ++ A ++ r) ++ R))), some (.lst [sf A, sf A]), some (.int (L.length + A.length : Nat)), some (.int (L.length + A.length + (c ++ A ++ r).length : Nat)), some (sf A)]) _ = _
      rw [b2]; rfl
    show (match (Option.bind (forL (putT 6 (.t1 99008099009 5)) (exL K0 emBody) (exL K0 .nil) [sf A, sf A] [some (.str n (St8 (jn [L, A, A, R]))), some (.str m (St8 (L ++ A ++ (c ++ A ++ r) ++ R))), some (.lst [sf A, sf A]), some (.int L.length), some (.int (L.length + A.length + (c ++ A ++ r).length : Nat)), some (sf R)]) _ : Option (Fl × Sto)) with | some (.ret v, _) => some v | _ => none) = _
    rw [e]
    have hne : c ++ A ++ r ≠ [] := by
      intro h
      rw [List.append_eq_nil_iff, List.append_eq_nil_iff] at h
      exact hA h.1.2
    rw [decide_eq_true hne]
    rfl
end Mine

namespace Mine
open PySem PySem.W PySem.Calls PyProof.Rows PySem.Builtin PySem.Builtin.Str PySem.StrLaws

/-! loops and lists built, whatever they run over -/
theorem compL_gen {α : Type} {put : V → Sto → Option Sto} {cond : Sto → Option Bool} {elt : Sto → Option V} (φ : α → V) (f : α → Bool) (g : α → V) (P : Sto → Prop) : ∀ (xs : List α) (σ : Sto),
    (∀ x ∈ xs, ∀ σ, P σ → ∃ σ', put (φ x) σ = some σ' ∧ P σ' ∧ cond σ' = some (f x) ∧ (f x = true → elt σ' = some (g x) ∧ (g x).plain = true)) → P σ → compL put cond elt (xs.map φ) σ = some ((xs.filter f).map g)
  | [], _, _, _ => rfl
  | x :: xs, σ, h, hP => by
    obtain ⟨σ', h1, h2, h3, h4⟩ := h x (List.mem_cons_self ..) σ hP
    have ih := compL_gen φ f g P xs σ' (fun y hy => h y (List.mem_cons_of_mem _ hy)) h2
    rw [List.map_cons]
    unfold compL
    rw [h1]
    show (match cond σ' with | none => none | some false => compL put cond elt (xs.map φ) σ' | some true => _) = _
    rw [h3]
    cases hf : f x with
    | false =>
      rw [List.filter_cons_of_neg (by rw [hf]; decide)]
      exact ih
    | true =>
      obtain ⟨h5, h6⟩ := h4 hf
      rw [List.filter_cons_of_pos hf]
      show (match elt σ' with | none => none | some y => if y.plain = true then (compL put cond elt (xs.map φ) σ').map (y :: ·) else none) = _
      rw [h5]
      show (if (g x).plain = true then _ else none) = _
      rw [if_pos h6, ih]; rfl
theorem compL_all {α : Type} {put : V → Sto → Option Sto} {cond : Sto → Option Bool} {elt : Sto → Option V} (φ : α → V) (g : α → V) (P : Sto → Prop) (xs : List α) (σ : Sto)
    (h : ∀ x ∈ xs, ∀ σ, P σ → ∃ σ', put (φ x) σ = some σ' ∧ P σ' ∧ cond σ' = some true ∧ elt σ' = some (g x) ∧ (g x).plain = true) (hP : P σ) : compL put cond elt (xs.map φ) σ = some (xs.map g) := by
  have := compL_gen (put := put) (cond := cond) (elt := elt) φ (fun _ => true) g P xs σ (fun x hx σ hP => let ⟨σ', h1, h2, h3, h4⟩ := h x hx σ hP; ⟨σ', h1, h2, h3, fun _ => h4⟩) hP
  rw [this, List.filter_eq_self.mpr fun _ _ => rfl]
theorem forL_gen {α : Type} {put : V → Sto → Option Sto} {body els : Sto → Option (Fl × Sto)} (φ : α → V) (P : Sto → Prop) : ∀ (xs : List α) (σ : Sto),
    (∀ x ∈ xs, ∀ σ, P σ → ∃ σ' σ'', put (φ x) σ = some σ' ∧ body σ' = some (.next, σ'') ∧ P σ'') → P σ → ∃ σ', P σ' ∧ forL put body els (xs.map φ) σ = els σ'
  | [], σ, _, hP => ⟨σ, hP, rfl⟩
  | x :: xs, σ, h, hP => by
    obtain ⟨σ', σ'', h1, h2, h3⟩ := h x (List.mem_cons_self ..) σ hP
    obtain ⟨τ, hτ, e⟩ := forL_gen φ P xs σ'' (fun y hy => h y (List.mem_cons_of_mem _ hy)) h3 (els := els)
    refine ⟨τ, hτ, ?_⟩
    rw [List.map_cons]
    unfold forL
    rw [h1]
    show (body σ').bind _ = _
    rw [h2]
    exact e

theorem ev_comp {K : Kx} {p : Nat} {sc : Scope} {nm : List Str} {cap : List Nat} {t : T} {it : It} {cond : Cd} {elt : X} {σ cs : Sto} {vs ws : List V} (h1 : evI K it σ = some vs) (h2 : caps σ cap = some cs) (h3 : vs.length ≤ 100000)
    (h4 : compL (putT (nT t) t) (evC K cond) (ev K elt false) vs (List.replicate (nT t) none ++ cs) = some ws) : ev K (.comp p sc nm cap t it cond elt) false σ = some (.lst ws) := by
  rw [evE_comp, h1]
  show (caps σ cap).bind _ = _
  rw [h2]
  show (if lim < vs.length then none else _) = _
  rw [if_neg (show ¬ lim < vs.length from Nat.not_lt.mpr h3), h4]
  rfl
noncomputable abbrev iv (k : Nat) : V := .int (k : Int)
noncomputable abbrev stt (l : List Nat) : V := .str true (St8 l)
noncomputable abbrev rng5 : List Nat := [0, 1, 2, 3, 4]

/-! the small ones -/
theorem lt_K1 (a b : Int) : K1.F "lt" [.int a, .int b] = some (.bool (decide (a < b))) := K1_esc rfl rfl rfl
theorem sub_K1 (a b : Int) : K1.F "sub" [.int a, .int b] = some (.int (a - b)) := K1_esc rfl rfl rfl
theorem contains_K1 {xs : List V} {n : Bool} {x : Str} {r : Bool} (h : inL xs (.str n x) = some r) : K1.F "contains" [.lst xs, .str n x] = some (.bool r) := by
  refine K1_esc rfl rfl (runF_of (σ := [some (.lst xs), some (.str n x)]) (exL_ret ?_ rfl))
  show (inL xs (.str n x)).map V.bool = _
  rw [h]; rfl

noncomputable def ixL : List (List Nat) → List Nat → Option Nat
  | [], _ => none
  | a :: as, x => if a = x then some 0 else (ixL as x).map (· + 1)
theorem inL_stt (l : List Nat) : ∀ ls : List (List Nat), inL (ls.map stt) (stt l) = some (ixL ls l).isSome
  | [] => rfl
  | a :: as => by
    have ih := inL_stt l as
    show (match some (St8 a == St8 l), inL (as.map stt) (stt l) with | some p, some q => some (p || q) | _, _ => none) = _
    rw [ih, st_beq]
    show some (decide (a = l) || (ixL as l).isSome) = some (if a = l then some 0 else (ixL as l).map (· + 1)).isSome
    by_cases h : a = l
    · rw [if_pos h, decide_eq_true h]; rfl
    · rw [if_neg h, decide_eq_false h, Bool.false_or, Option.isSome_map]

theorem plains_map {α : Type} (f : α → V) (h : ∀ a, (f a).plain = true) : ∀ l : List α, plains (l.map f) = true
  | [] => rfl
  | a :: l => by
    show ((f a).plain && plains (l.map f)) = true
    rw [h, plains_map f h l]; rfl

noncomputable def ixBody : SL := match bindexOf with | .cons (.forr _ _ _ b _) _ => b | _ => .nil
noncomputable def ixEls : SL := match bindexOf with | .cons (.forr _ _ _ _ o) _ => o | _ => .nil
theorem ix_loop (K : Kx) (l : List Nat) (x0 : Option V) : ∀ (ls : List (List Nat)) (k i : Nat) (a b : Option V), ixL ls l = some i →
    ∃ σ, forL (putT 4 (.t2 156008156012 156008156009 2 156011156012 3)) (exL K ixBody) (exL K ixEls) (((ls.map stt).zipIdx k).map fun c => .tup [.int c.2, c.1]) [x0, some (stt l), a, b] = some (.ret (iv (k + i)), σ)
  | [], _, _, _, _, h => by cases h
  | c :: ls, k, i, a, b, h => by
    have h' : (if c = l then some 0 else (ixL ls l).map (· + 1)) = some i := h
    rw [List.map_cons, List.zipIdx_cons, List.map_cons]
    by_cases hc : c = l
    · rw [if_pos hc] at h'
      cases h'
      refine ⟨[x0, some (stt l), some (.int k), some (stt c)], ?_⟩
      show Option.bind (exL K ixBody [x0, some (stt l), some (.int k), some (stt c)]) _ = _
      have e : exL K ixBody [x0, some (stt l), some (.int k), some (stt c)] = some (.ret (.int k), [x0, some (stt l), some (.int k), some (stt c)]) := by
        refine exL_iffR (v := .int k) ?_ rfl
        show some (St8 c == St8 l) = _
        rw [st_beq, decide_eq_true hc]
      rw [e]; rfl
    · rw [if_neg hc] at h'
      obtain ⟨j, hj, rfl⟩ := Option.map_eq_some_iff.mp h'
      obtain ⟨σ, ih⟩ := ix_loop K l x0 ls (k + 1) j (some (.int k)) (some (stt c)) hj
      refine ⟨σ, ?_⟩
      show Option.bind (exL K ixBody [x0, some (stt l), some (.int k), some (stt c)]) _ = _
      have e : exL K ixBody [x0, some (stt l), some (.int k), some (stt c)] = some (.next, [x0, some (stt l), some (.int k), some (stt c)]) := by
        refine (exL_iffF ?_ rfl).trans rfl
        show some (St8 c == St8 l) = _
        rw [st_beq, decide_eq_false hc]
      rw [e]
      have hk : k + (j + 1) = k + 1 + j := by lia
      rw [hk]
      exact ih
theorem indexOf_K1 {ls : List (List Nat)} {l : List Nat} {i : Nat} (h : ixL ls l = some i) : K1.F "indexOf" [.lst (ls.map stt), stt l] = some (iv i) := by
  obtain ⟨σ, e⟩ := ix_loop K0 l (some (.lst (ls.map stt))) ls 0 i none none h
  refine K1_esc rfl rfl (runF_of (σ := σ) ?_)
  show Option.bind (Option.bind (if plains (ls.map stt) = true then some (((ls.map stt).zipIdx).map fun c => V.tup [.int c.2, c.1]) else none) fun vs => forL (putT 4 (.t2 156008156012 156008156009 2 156011156012 3)) (exL K0 ixBody) (exL K0 ixEls) vs [some (.lst (ls.map stt)), some (stt l), none, none]) _ = _
  rw [if_pos (plains_map stt (fun _ => rfl) ls)]
  show Option.bind (forL (putT 4 (.t2 156008156012 156008156009 2 156011156012 3)) (exL K0 ixBody) (exL K0 ixEls) (((ls.map stt).zipIdx).map fun c => V.tup [.int c.2, c.1]) [some (.lst (ls.map stt)), some (stt l), none, none]) _ = _
  rw [e]
  show some (Fl.ret (iv (0 + i)), σ) = _
  rw [Nat.zero_add]
end Mine

namespace Mine
open PySem PySem.W PySem.Calls PyProof.Rows PySem.Builtin PySem.Builtin.Str PySem.StrLaws

noncomputable def minN : Nat → List Nat → Nat
  | a, [] => a
  | a, b :: bs => minN (if b < a then b else a) bs
noncomputable def maxN : Nat → List Nat → Nat
  | a, [] => a
  | a, b :: bs => maxN (if a < b then b else a) bs
theorem minI_nat : ∀ (as : List Nat) (a : Nat), minI (a : Int) (as.map fun k : Nat => (k : Int)) = (minN a as : Nat)
  | [], _ => rfl
  | b :: bs, a => by
    rw [List.map_cons]
    unfold minI minN
    have : (if (b : Int) < (a : Int) then (b : Int) else (a : Int)) = ((if b < a then b else a : Nat) : Int) := by split <;> split <;> lia
    rw [this]
    exact minI_nat bs _
theorem maxI_nat : ∀ (as : List Nat) (a : Nat), maxI (a : Int) (as.map fun k : Nat => (k : Int)) = (maxN a as : Nat)
  | [], _ => rfl
  | b :: bs, a => by
    rw [List.map_cons]
    unfold maxI maxN
    have : (if (a : Int) < (b : Int) then (b : Int) else (a : Int)) = ((if a < b then b else a : Nat) : Int) := by split <;> split <;> lia
    rw [this]
    exact maxI_nat bs _
theorem intsOf_iv : ∀ as : List Nat, intsOf (as.map iv) = some (as.map fun k : Nat => (k : Int))
  | [] => rfl
  | a :: as => by
    show (intsOf (as.map iv)).map _ = _
    rw [intsOf_iv as]; rfl
theorem bi_min (a : Nat) (as : List Nat) : biV "min" [.lst ((a :: as).map iv)] = some (iv (minN a as)) := by
  show (match intsOf ((a :: as).map iv) with | some (a :: as) => some (V.int (minI a as)) | _ => none) = _
  rw [intsOf_iv]
  show some (V.int (minI (a : Int) (as.map fun k : Nat => (k : Int)))) = _
  rw [minI_nat]
theorem bi_max (a : Nat) (as : List Nat) : biV "max" [.lst ((a :: as).map iv)] = some (iv (maxN a as)) := by
  show (match intsOf ((a :: as).map iv) with | some (a :: as) => some (V.int (maxI a as)) | _ => none) = _
  rw [intsOf_iv]
  show some (V.int (maxI (a : Int) (as.map fun k : Nat => (k : Int)))) = _
  rw [maxI_nat]
theorem bi_min2 (a b : Nat) : biV "min" [iv a, iv b] = some (iv (minN a [b])) := by
  show some (V.int (minI (a : Int) ([b].map fun k : Nat => (k : Int)))) = _
  rw [minI_nat]
theorem bi_max2 (a b : Nat) : biV "max" [iv a, iv b] = some (iv (maxN a [b])) := by
  show some (V.int (maxI (a : Int) ([b].map fun k : Nat => (k : Int)))) = _
  rw [maxI_nat]
theorem atV_nat {xs : List V} {i : Nat} (h : i ≤ 100000) : atV xs (i : Int) = xs[i]? := by
  unfold atV
  rw [if_pos (small_nat h), if_pos (by lia), Int.toNat_natCast]
theorem atV_map {α : Type} {φ : α → V} {xs : List α} {i : Nat} {x : α} (h : i ≤ 100000) (hx : xs[i]? = some x) : atV (xs.map φ) (i : Int) = some (φ x) := by
  rw [atV_nat h, List.getElem?_map, hx]; rfl

/-- `_law_side`, as a text -/
noncomputable def sideP (rs : List Nat) (u v : Nat) : List Nat :=
  if v ≤ u then [] else
  match rng5.filter (fun w => decide (minN (rs.getD u 0) [rs.getD v 0] ≤ rs.getD w 0) && decide (rs.getD w 0 ≤ maxN (rs.getD u 0) [rs.getD v 0])) with
  | [] => []
  | a :: as => if minN a as = u then (if rs.getD v 0 < rs.getD u 0 then [60] else [62]) else []

theorem caps_cons {σ : Sto} {i : Nat} {is : List Nat} {v : V} {vs : Sto} (h1 : σ.at i = some v) (hp : v.plain = true) (h2 : caps σ is = some vs) : caps σ (i :: is) = some (some v :: vs) := by
  unfold caps
  rw [h1, h2]
  exact if_pos hp
theorem plain_ivs (rs : List Nat) : (V.lst (rs.map iv)).plain = true := plains_map iv (fun _ => rfl) rs
theorem evI_rng5 (K : Kx) (p q r : Nat) (σ : Sto) : evI K (.rng p q (.cint r 5)) σ = some (rng5.map iv) := rfl

theorem getD_some {rs : List Nat} (h : rs.length = 5) {u : Nat} (hu : u < 5) : rs[u]? = some (rs.getD u 0) := by
  rw [List.getD_eq_getElem?_getD, List.getElem?_eq_getElem (by lia)]; rfl
theorem rng5_mem : ∀ x < 5, x ∈ rng5 := by decide
theorem rng5_lt : ∀ x ∈ rng5, x < 5 := by decide

theorem side_K1 (rs : List Nat) (hrs : rs.length = 5) (u v : Nat) (hu : u < 5) (hv : v < 5) : K1.F "_law_side" [.lst (rs.map iv), iv u, iv v] = some (stt (sideP rs u v)) := by
  have iu : ∀ {p p1 p2 : Nat} {x3 x4 : Option V}, ev K0 (.idx p (.var p1 0) (.var p2 1)) false [some (.lst (rs.map iv)), some (iv u), some (iv v), x3, x4] = some (iv (rs.getD u 0)) := fun {p p1 p2 x3 x4} => by
    show atV (rs.map iv) (u : Int) = _
    exact atV_map (by lia) (getD_some hrs hu)
  have iw : ∀ {p p1 p2 : Nat} {x3 x4 : Option V}, ev K0 (.idx p (.var p1 0) (.var p2 2)) false [some (.lst (rs.map iv)), some (iv u), some (iv v), x3, x4] = some (iv (rs.getD v 0)) := fun {p p1 p2 x3 x4} => by
    show atV (rs.map iv) (v : Int) = _
    exact atV_map (by lia) (getD_some hrs hv)
  generalize hlo : minN (rs.getD u 0) [rs.getD v 0] = lo
  generalize hhi : maxN (rs.getD u 0) [rs.getD v 0] = hi
  have s1 : exL K0 b_law_side [some (.lst (rs.map iv)), some (iv u), some (iv v), none, none] = exL K0 (tln 1 b_law_side) [some (.lst (rs.map iv)), some (iv u), some (iv v), some (iv lo), some (iv hi)] := by
    refine exL_next ?_
    rw [exS_asg2]
    have e1 : ev K0 (.bcall 184017184040 184017184020 "min" (.cons (.idx 184021184029 (.var 184021184026 0) (.var 184027184028 1)) (.cons (.idx 184031184039 (.var 184031184036 0) (.var 184037184038 2)) .nil))) false [some (.lst (rs.map iv)), some (iv u), some (iv v), none, none] = some (iv lo) := by
      rw [evE_bcall, evL_cons, iu, evL_cons, iw]
      show biV "min" [iv (rs.getD u 0), iv (rs.getD v 0)] = _
      rw [bi_min2, hlo]
    have e2 : ev K0 (.bcall 184042184065 184042184045 "max" (.cons (.idx 184046184054 (.var 184046184051 0) (.var 184052184053 1)) (.cons (.idx 184056184064 (.var 184056184061 0) (.var 184062184063 2)) .nil))) false [some (.lst (rs.map iv)), some (iv u), some (iv v), none, none] = some (iv hi) := by
      rw [evE_bcall, evL_cons, iu, evL_cons, iw]
      show biV "max" [iv (rs.getD u 0), iv (rs.getD v 0)] = _
      rw [bi_max2, hhi]
    rw [e1, e2]; rfl
  -- the last row
  have s3 : exL K0 (tln 2 b_law_side) [some (.lst (rs.map iv)), some (iv u), some (iv v), some (iv lo), some (iv hi)] = some (.ret (stt (if rs.getD v 0 < rs.getD u 0 then [60] else [62])), [some (.lst (rs.map iv)), some (iv u), some (iv v), some (iv lo), some (iv hi)]) := by
    refine exL_ret ?_ rfl
    rw [evE_ite]
    have e : ev K0 (.cmp 187018187037 .Lt (.idx 187018187026 (.var 187018187023 0) (.var 187024187025 2)) (.idx 187029187037 (.var 187029187034 0) (.var 187035187036 1))) true [some (.lst (rs.map iv)), some (iv u), some (iv v), some (iv lo), some (iv hi)] = some (.bool (decide (rs.getD v 0 < rs.getD u 0))) := by
      rw [evE_cmp, iu, iw]
      show some (V.bool (decide (((rs.getD v 0 : Nat) : Int) < ((rs.getD u 0 : Nat) : Int)))) = _
      simp only [Int.ofNat_lt]
    rw [e]
    by_cases h : rs.getD v 0 < rs.getD u 0
    · rw [decide_eq_true h, if_pos h]; rfl
    · rw [decide_eq_false h, if_neg h]; rfl
  refine K1_esc rfl rfl (runF_of (σ := [some (.lst (rs.map iv)), some (iv u), some (iv v), some (iv lo), some (iv hi)]) ?_)
  show exL K0 b_law_side [some (.lst (rs.map iv)), some (iv u), some (iv v), none, none] = _
  rw [s1]
  have g1 : unB (ev K0 (.cmp 185007185013 .GtE (.var 185007185008 1) (.var 185012185013 2)) true [some (.lst (rs.map iv)), some (iv u), some (iv v), some (iv lo), some (iv hi)]) = some (decide (v ≤ u)) := by
    show some (decide ((v : Int) ≤ (u : Int))) = _
    simp only [Int.ofNat_le]
  by_cases hvu : v ≤ u
  · have e : evT K0 (.boo 185007185075 .Or (.cmp 185007185013 .GtE (.var 185007185008 1) (.var 185012185013 2)) (.cmp 185017185075 .NotEq (.bcall 185017185070 185017185020 "min" (.cons (.comp 185021185069 ⟨.function, [(".0", .local), ("w", .local), ("high", .free), ("low", .free), ("ranks", .free)], false, false, []⟩ ["w", "high", "low", "ranks"] [4, 3, 0] (.t1 185028185029 0) (.rng 185033185041 185033185038 (.cint 185039185040 5)) (.some (.chain 185045185068 .LtE .LtE (.var 185045185048 2) (.idx 185052185060 (.var 185052185057 3) (.var 185058185059 0)) (.var 185064185068 1))) (.var 185022185023 0)) .nil)) (.var 185074185075 1))) [some (.lst (rs.map iv)), some (iv u), some (iv v), some (iv lo), some (iv hi)] = some true := by
      rw [evT_eq]
      rw [evE_boo, g1, decide_eq_true hvu]; rfl
    have : sideP rs u v = [] := if_pos hvu
    rw [this]
    exact exL_iffR e rfl
  · have ec : compL (putT (nT (.t1 185028185029 0)) (.t1 185028185029 0)) (evC K0 (.some (.chain 185045185068 .LtE .LtE (.var 185045185048 2) (.idx 185052185060 (.var 185052185057 3) (.var 185058185059 0)) (.var 185064185068 1)))) (ev K0 (.var 185022185023 0) false) (rng5.map iv)
        (List.replicate (nT (.t1 185028185029 0)) none ++ [some (iv hi), some (iv lo), some (.lst (rs.map iv))]) = some ((rng5.filter fun w => decide (lo ≤ rs.getD w 0) && decide (rs.getD w 0 ≤ hi)).map iv) := by
      refine compL_gen iv (fun w => decide (lo ≤ rs.getD w 0) && decide (rs.getD w 0 ≤ hi)) iv (fun σ => ∃ x, σ = [x, some (iv hi), some (iv lo), some (.lst (rs.map iv))]) rng5 _ ?_ ⟨none, rfl⟩
      rintro w hw σ ⟨x, rfl⟩
      refine ⟨[some (iv w), some (iv hi), some (iv lo), some (.lst (rs.map iv))], rfl, ⟨_, rfl⟩, ?_, fun _ => ⟨rfl, rfl⟩⟩
      have ew : ev K0 (.idx 185052185060 (.var 185052185057 3) (.var 185058185059 0)) false [some (iv w), some (iv hi), some (iv lo), some (.lst (rs.map iv))] = some (iv (rs.getD w 0)) := by
        show atV (rs.map iv) (w : Int) = _
        have := rng5_lt w hw
        exact atV_map (by lia) (getD_some hrs this)
      rw [evC_some, evE_chain, ew]
      show unB (Option.bind (some (decide ((lo : Int) ≤ ((rs.getD w 0 : Nat) : Int)))) fun r => if r then (Option.map V.bool (some (decide (((rs.getD w 0 : Nat) : Int) ≤ (hi : Int))))) else some (.bool false)) = _
      simp only [Int.ofNat_le]
      by_cases h : lo ≤ rs.getD w 0
      · rw [decide_eq_true h]; rfl
      · rw [decide_eq_false h]; rfl
    have hmem : u ∈ rng5.filter fun w => decide (lo ≤ rs.getD w 0) && decide (rs.getD w 0 ≤ hi) := by
      rw [List.mem_filter]
      refine ⟨rng5_mem u hu, ?_⟩
      rw [Bool.and_eq_true, decide_eq_true_eq, decide_eq_true_eq, ← hlo, ← hhi]
      unfold minN maxN minN maxN
      constructor <;> split <;> lia
    have hs : sideP rs u v = match rng5.filter (fun w => decide (lo ≤ rs.getD w 0) && decide (rs.getD w 0 ≤ hi)) with
        | [] => []
        | a :: as => if minN a as = u then (if rs.getD v 0 < rs.getD u 0 then [60] else [62]) else [] := by
      unfold sideP
      rw [if_neg hvu, hlo, hhi]
    cases hf : rng5.filter fun w => decide (lo ≤ rs.getD w 0) && decide (rs.getD w 0 ≤ hi) with
    | nil => rw [hf] at hmem; cases hmem
    | cons a as =>
      rw [hf] at ec hs
      have e : evT K0 (.boo 185007185075 .Or (.cmp 185007185013 .GtE (.var 185007185008 1) (.var 185012185013 2)) (.cmp 185017185075 .NotEq (.bcall 185017185070 185017185020 "min" (.cons (.comp 185021185069 ⟨.function, [(".0", .local), ("w", .local), ("high", .free), ("low", .free), ("ranks", .free)], false, false, []⟩ ["w", "high", "low", "ranks"] [4, 3, 0] (.t1 185028185029 0) (.rng 185033185041 185033185038 (.cint 185039185040 5)) (.some (.chain 185045185068 .LtE .LtE (.var 185045185048 2) (.idx 185052185060 (.var 185052185057 3) (.var 185058185059 0)) (.var 185064185068 1))) (.var 185022185023 0)) .nil)) (.var 185074185075 1))) [some (.lst (rs.map iv)), some (iv u), some (iv v), some (iv lo), some (iv hi)] = some (!decide (minN a as = u)) := by
        rw [evT_eq]
        rw [evE_boo, g1, decide_eq_false hvu]
        have em : ev K0 (.cmp 185017185075 .NotEq (.bcall 185017185070 185017185020 "min" (.cons (.comp 185021185069 ⟨.function, [(".0", .local), ("w", .local), ("high", .free), ("low", .free), ("ranks", .free)], false, false, []⟩ ["w", "high", "low", "ranks"] [4, 3, 0] (.t1 185028185029 0) (.rng 185033185041 185033185038 (.cint 185039185040 5)) (.some (.chain 185045185068 .LtE .LtE (.var 185045185048 2) (.idx 185052185060 (.var 185052185057 3) (.var 185058185059 0)) (.var 185064185068 1))) (.var 185022185023 0)) .nil)) (.var 185074185075 1)) true [some (.lst (rs.map iv)), some (iv u), some (iv v), some (iv lo), some (iv hi)] = some (.bool (!decide (minN a as = u))) := by
          have eb : ev K0 (.bcall 185017185070 185017185020 "min" (.cons (.comp 185021185069 ⟨.function, [(".0", .local), ("w", .local), ("high", .free), ("low", .free), ("ranks", .free)], false, false, []⟩ ["w", "high", "low", "ranks"] [4, 3, 0] (.t1 185028185029 0) (.rng 185033185041 185033185038 (.cint 185039185040 5)) (.some (.chain 185045185068 .LtE .LtE (.var 185045185048 2) (.idx 185052185060 (.var 185052185057 3) (.var 185058185059 0)) (.var 185064185068 1))) (.var 185022185023 0)) .nil)) false [some (.lst (rs.map iv)), some (iv u), some (iv v), some (iv lo), some (iv hi)] = some (iv (minN a as)) := by
            rw [evE_bcall, evL_cons, ev_comp (evI_rng5 _ _ _ _ _) (caps_cons rfl rfl (caps_cons rfl rfl (caps_cons rfl (plain_ivs rs) rfl))) (by decide) ec, evL_nil]
            exact bi_min a as
          rw [evE_cmp, eb]
          show some (V.bool (!(((minN a as : Nat) : Int) == (u : Int)))) = _
          congr 3
          rw [Bool.eq_iff_iff, beq_iff_eq, decide_eq_true_eq]
          lia
        rw [em]; rfl
      by_cases hm : minN a as = u
      · rw [decide_eq_true hm] at e
        rw [hs]
        show _ = some (Fl.ret (stt (if minN a as = u then (if rs.getD v 0 < rs.getD u 0 then [60] else [62]) else [])), _)
        rw [if_pos hm, ← s3]
        exact exL_iffF e rfl
      · rw [decide_eq_false hm] at e
        rw [hs]
        show _ = some (Fl.ret (stt (if minN a as = u then (if rs.getD v 0 < rs.getD u 0 then [60] else [62]) else [])), _)
        rw [if_neg hm]
        exact exL_iffR e rfl
end Mine

namespace Mine
open PySem PySem.W PySem.Calls PyProof.Rows PySem.Builtin PySem.Builtin.Str PySem.StrLaws

/-! names as ways: k = 9 as they are, else as written by k -/
noncomputable def ampK (k : Nat) : List Nat := if k = 9 then [38] else [38, 97, 109, 112, 59]
noncomputable def codK (k : Nat) (b : Bool) : List Nat := if k = 9 then (if b then [60] else [62]) else escK k (if b then 60 else 62)
noncomputable def W (k : Nat) (p : List Bool) : List Nat := ampK k ++ p.flatMap fun b => codK k b ++ ampK k
noncomputable def sgn (b : Bool) : Nat := if b then 60 else 62

theorem W_snoc (k : Nat) (p : List Bool) (b : Bool) : W k (p ++ [b]) = W k p ++ codK k b ++ ampK k := by
  unfold W
  rw [List.flatMap_append]
  simp
theorem W9_snoc (p : List Bool) (b : Bool) : W 9 (p ++ [b]) = W 9 p ++ [sgn b, 38] := by
  rw [W_snoc]
  cases b <;> simp [codK, ampK, sgn]
theorem W9_sg : ∀ p : List Bool, Sg (W 9 p) := by
  intro p d hd
  unfold W at hd
  rw [List.mem_append, List.mem_flatMap] at hd
  rcases hd with hd | ⟨b, _, hd⟩
  · left; simpa [ampK] using hd
  · cases b <;> simp [codK, ampK] at hd <;> lia
theorem W9_len (p : List Bool) : (W 9 p).length = 1 + 2 * p.length := by
  unfold W
  induction p with
  | nil => rfl
  | cons b p ih =>
    have hb : (codK 9 b ++ ampK 9).length = 2 := by cases b <;> rfl
    have e9 : (ampK 9).length = 1 := rfl
    rw [List.flatMap_cons, List.length_append, List.length_append, hb, List.length_cons]
    rw [List.length_append, e9] at ih
    lia

/-- two codes part at one sign -/
theorem cod_part (k : Nat) (hk : k < 5 ∨ k = 9) : ∃ c x y r s, x ≠ y ∧ codK k true = c ++ x :: r ∧ codK k false = c ++ y :: s := by
  have : k = 0 ∨ k = 1 ∨ k = 2 ∨ k = 3 ∨ k = 4 ∨ k = 9 := by lia
  rcases this with rfl | rfl | rfl | rfl | rfl | rfl
  · exact ⟨[38], 108, 103, [116, 59], [116, 59], by decide, rfl, rfl⟩
  · exact ⟨[38], 108, 103, [116, 59], [116, 59], by decide, rfl, rfl⟩
  · exact ⟨[], 60, 38, [], [103, 116, 59], by decide, rfl, rfl⟩
  · exact ⟨[38], 108, 103, [116, 59], [116, 59], by decide, rfl, rfl⟩
  · exact ⟨[], 38, 62, [108, 116, 59], [], by decide, rfl, rfl⟩
  · exact ⟨[], 60, 62, [], [], by decide, rfl, rfl⟩
theorem cod_prefix {k : Nat} (hk : k < 5 ∨ k = 9) {a b : Bool} {l m : List Nat} (h : codK k a ++ l <+: codK k b ++ m) : a = b := by
  obtain ⟨c, x, y, r, s, hne, h1, h2⟩ := cod_part k hk
  cases a <;> cases b <;> first | rfl | exfalso
  · rw [h1, h2, List.append_assoc, List.append_assoc, List.prefix_append_right_inj, List.cons_append, List.cons_append, List.cons_prefix_cons] at h
    exact hne h.1.symm
  · rw [h1, h2, List.append_assoc, List.append_assoc, List.prefix_append_right_inj, List.cons_append, List.cons_append, List.cons_prefix_cons] at h
    exact hne h.1
/-- what follows the first & of a name -/
noncomputable def Wt (k : Nat) (p : List Bool) : List Nat := p.flatMap fun b => codK k b ++ ampK k
theorem W_eq (k : Nat) (p : List Bool) : W k p = ampK k ++ Wt k p := rfl
theorem Wt_cons (k : Nat) (b : Bool) (p : List Bool) : Wt k (b :: p) = codK k b ++ (ampK k ++ Wt k p) := by
  unfold Wt
  rw [List.flatMap_cons, List.append_assoc]
theorem cod_ne (k : Nat) (hk : k < 5 ∨ k = 9) (b : Bool) : codK k b ≠ [] := by
  obtain ⟨c, x, y, r, s, hne, h1, h2⟩ := cod_part k hk
  cases b
  · rw [h2]; simp
  · rw [h1]; simp
theorem Wt_prefix {k : Nat} (hk : k < 5 ∨ k = 9) : ∀ {p q : List Bool}, Wt k p <+: Wt k q → p <+: q
  | [], _, _ => List.nil_prefix
  | a :: p, [], h => by
    rw [Wt_cons] at h
    have h' : codK k a ++ (ampK k ++ Wt k p) <+: [] := h
    rw [List.prefix_nil, List.append_eq_nil_iff] at h'
    exact absurd h'.1 (cod_ne k hk a)
  | a :: p, b :: q, h => by
    rw [Wt_cons, Wt_cons] at h
    have e := cod_prefix hk h
    subst e
    rw [List.prefix_append_right_inj, List.prefix_append_right_inj] at h
    rw [List.cons_prefix_cons]
    exact ⟨rfl, Wt_prefix hk h⟩
theorem W_inj {k : Nat} (hk : k < 5 ∨ k = 9) {p q : List Bool} (h : W k p = W k q) : p = q := by
  have h' : Wt k p = Wt k q := List.append_cancel_left h
  have h1 := Wt_prefix hk (h' ▸ List.prefix_refl _ : Wt k p <+: Wt k q)
  have h2 := Wt_prefix hk (h' ▸ List.prefix_refl _ : Wt k q <+: Wt k p)
  exact h1.eq_of_length_le h2.length_le

noncomputable def ixP : List (List Bool) → List Bool → Option Nat
  | [], _ => none
  | a :: as, x => if a = x then some 0 else (ixP as x).map (· + 1)
theorem ixL_W {k : Nat} (hk : k < 5 ∨ k = 9) (p : List Bool) : ∀ ps : List (List Bool), ixL (ps.map (W k)) (W k p) = ixP ps p
  | [] => rfl
  | a :: as => by
    have ih := ixL_W hk p as
    show (if W k a = W k p then some 0 else (ixL (as.map (W k)) (W k p)).map (· + 1)) = (if a = p then some 0 else (ixP as p).map (· + 1))
    rw [ih]
    by_cases h : a = p
    · rw [if_pos h, if_pos (by rw [h])]
    · rw [if_neg h, if_neg fun e => h (W_inj hk e)]
theorem ixP_lt {p : List Bool} : ∀ {ps : List (List Bool)} {i : Nat}, ixP ps p = some i → i < ps.length
  | [], _, h => by cases h
  | a :: as, i, h => by
    have h' : (if a = p then some 0 else (ixP as p).map (· + 1)) = some i := h
    rw [List.length_cons]
    by_cases hc : a = p
    · rw [if_pos hc] at h'; cases h'; lia
    · rw [if_neg hc] at h'
      obtain ⟨j, hj, rfl⟩ := Option.map_eq_some_iff.mp h'
      have := ixP_lt hj
      lia

/-! `_law_names` -/
noncomputable def wk (f : Nat → Bool) (ps : List (List Bool)) : Nat → List Bool → Option (List Bool)
  | 0, _ => none
  | n + 1, p => match ixP ps p with | none => some p | some i => wk f ps n (p ++ [f i])
noncomputable def namesP (lt : Nat → Nat → Bool) : Nat → List (List Bool) → Option (List (List Bool))
  | 0, ps => some ps
  | n + 1, ps => match wk (lt ps.length) ps 10 [] with | none => none | some q => namesP lt n (ps ++ [q])

noncomputable abbrev nmV (ps : List (List Bool)) : List V := ps.map fun p => stt (W 9 p)
theorem nmV_eq (ps : List (List Bool)) : nmV ps = (ps.map (W 9)).map stt := by rw [List.map_map]; rfl
theorem plains_nmV (ps : List (List Bool)) : plains (nmV ps) = true := plains_map _ (fun _ => rfl) ps
theorem plain_ints (ks : List Int) : (V.lst (ks.map V.int)).plain = true := plains_map V.int (fun _ => rfl) ks

noncomputable def nmFor : S := match b_law_names with | .cons _ (.cons x _) => x | _ => sD
noncomputable def nmBody : SL := match nmFor with | .forr _ _ _ b _ => b | _ => .nil
noncomputable def whC : X := match nmBody with | .cons _ (.cons (.whil _ c _) _) => c | _ => xD
noncomputable def whB : SL := match nmBody with | .cons _ (.cons (.whil _ _ b) _) => b | _ => .nil
noncomputable def ltX : X := match whB with | .cons (.aug _ _ _ _ (.ite _ c _ _)) _ => c | _ => xD

theorem wh_test (ks : Option V) (ps : List (List Bool)) (k : Option V) (p : List Bool) : evT K1 whC [ks, some (.olst (nmV ps)), k, some (stt (W 9 p))] = some (ixP ps p).isSome := by
  rw [evT_eq]
  have h := contains_K1 (xs := nmV ps) (n := true) (x := St8 (W 9 p)) (r := (ixP ps p).isSome) (by
    rw [nmV_eq]
    rw [show V.str true (St8 (W 9 p)) = stt (W 9 p) from rfl, inL_stt, ixL_W (Or.inr rfl)])
  rw [show ev K1 whC true [ks, some (.olst (nmV ps)), k, some (stt (W 9 p))] = _ from ev_gcallT (vs := [.olst (nmV ps), stt (W 9 p)]) (v := .bool (ixP ps p).isSome) rfl h (by
    show (plains (nmV ps) && _) = true
    rw [plains_nmV]; rfl) rfl]
  rfl

theorem wh_body (keys : List Int) (ps : List (List Bool)) (k : Int) (p : List Bool) (i : Nat) (hi : ixP ps p = some i) (hl : ps.length ≤ keys.length) (hk : keys.length ≤ 100) (hp : p.length ≤ 100) :
    exL K1 whB [some (.lst (keys.map V.int)), some (.olst (nmV ps)), some (.int k), some (stt (W 9 p))] = some (.next, [some (.lst (keys.map V.int)), some (.olst (nmV ps)), some (.int k), some (stt (W 9 (p ++ [decide (k < keys.getD i 0)])))]) := by
  have hii := ixP_lt hi
  have e1 : ev K1 (.gcall 180041180061 180041180048 "indexOf" (.cons (.var 180049180054 1) (.cons (.var 180056180060 3) .nil))) false [some (.lst (keys.map V.int)), some (.olst (nmV ps)), some (.int k), some (stt (W 9 p))] = some (iv i) := by
    refine ev_gcall (vs := [.olst (nmV ps), stt (W 9 p)]) rfl ?_ (by
      show (plains (nmV ps) && _) = true
      rw [plains_nmV]; rfl) rfl
    show K1.F "indexOf" [.lst (nmV ps), stt (W 9 p)] = _
    rw [nmV_eq]
    exact indexOf_K1 (by rw [ixL_W (Or.inr rfl), hi])
  have e2 : ev K1 (.idx 180036180062 (.var 180036180040 0) (.gcall 180041180061 180041180048 "indexOf" (.cons (.var 180049180054 1) (.cons (.var 180056180060 3) .nil)))) false [some (.lst (keys.map V.int)), some (.olst (nmV ps)), some (.int k), some (stt (W 9 p))] = some (.int (keys.getD i 0)) := by
    rw [evE_idx, e1]
    show atV (keys.map V.int) (i : Int) = _
    refine atV_map (by lia) ?_
    rw [List.getD_eq_getElem?_getD, List.getElem?_eq_getElem (by lia)]; rfl
  have e3 : ev K1 ltX true [some (.lst (keys.map V.int)), some (.olst (nmV ps)), some (.int k), some (stt (W 9 p))] = some (.bool (decide (k < keys.getD i 0))) := by
    rw [show ev K1 ltX true [some (.lst (keys.map V.int)), some (.olst (nmV ps)), some (.int k), some (stt (W 9 p))] = _ from ev_gcallT (vs := [.int k, .int (keys.getD i 0)]) (v := .bool (decide (k < keys.getD i 0))) (by
      rw [evL_cons, evL_cons, e2]; rfl) (lt_K1 _ _) rfl rfl]
    rfl
  refine (exL_next (xs := .nil) (σ' := [some (.lst (keys.map V.int)), some (.olst (nmV ps)), some (.int k), some (stt (W 9 (p ++ [decide (k < keys.getD i 0)])))]) ?_).trans rfl
  rw [exS_aug]
  show Option.bind (ev K1 (.ite _ ltX _ _) false [some (.lst (keys.map V.int)), some (.olst (nmV ps)), some (.int k), some (stt (W 9 p))]) _ = _
  rw [evE_ite, e3]
  have hlen := W9_len p
  have hadd : ∀ b : Bool, augV .Add (stt (W 9 p)) (.str true (if b then "<&" else ">&")) = some (stt (W 9 (p ++ [b]))) := by
    intro b
    have e : (if b then ("<&" : Str) else ">&") = St8 [sgn b, 38] := by cases b <;> decide +kernel
    rw [e]
    show (if (St8 (W 9 p)).length + (St8 [sgn b, 38]).length ≤ lim then some (V.str (true && true) (St8 (W 9 p) ++ St8 [sgn b, 38])) else none) = _
    have hlim : lim = 100000 := rfl
    rw [st_len, st_len, if_pos (by rw [hlen, hlim]; simp only [List.length_cons, List.length_nil]; lia), st_app, W9_snoc]; rfl
  cases hb : decide (k < keys.getD i 0) with
  | true =>
    show Option.bind (augV .Add (stt (W 9 p)) (.str true "<&")) _ = _
    have := hadd true
    rw [if_pos rfl] at this
    rw [this]; rfl
  | false =>
    show Option.bind (augV .Add (stt (W 9 p)) (.str true ">&")) _ = _
    have := hadd false
    rw [if_neg (by decide)] at this
    rw [this]; rfl

theorem wh_run (keys : List Int) (ps : List (List Bool)) (k : Int) (hl : ps.length ≤ keys.length) (hk : keys.length ≤ 100) : ∀ (n : Nat) (p q : List Bool), p.length + n ≤ 100 → wk (fun i => decide (k < keys.getD i 0)) ps n p = some q →
    whileL (evT K1 whC) (exL K1 whB) n [some (.lst (keys.map V.int)), some (.olst (nmV ps)), some (.int k), some (stt (W 9 p))] = some (.next, [some (.lst (keys.map V.int)), some (.olst (nmV ps)), some (.int k), some (stt (W 9 q))])
  | 0, p, q, _, h => by cases h
  | n + 1, p, q, hp, h => by
    unfold whileL
    rw [wh_test]
    unfold wk at h
    cases hi : ixP ps p with
    | none => rw [hi] at h; cases h; rfl
    | some i =>
      rw [hi] at h
      show Option.bind (exL K1 whB [some (.lst (keys.map V.int)), some (.olst (nmV ps)), some (.int k), some (stt (W 9 p))]) _ = _
      rw [wh_body keys ps k p i hi hl hk (by lia)]
      exact wh_run keys ps k hl hk n _ q (by rw [List.length_append, List.length_singleton]; lia) h

theorem nm_body (keys : List Int) (ps : List (List Bool)) (k : Int) (x : Option V) (hl : ps.length ≤ keys.length) (hk : keys.length ≤ 100) {q : List Bool} (h : wk (fun i => decide (k < keys.getD i 0)) ps 10 [] = some q) :
    exL K1 nmBody [some (.lst (keys.map V.int)), some (.olst (nmV ps)), some (.int k), x] = some (.next, [some (.lst (keys.map V.int)), some (.olst (nmV (ps ++ [q]))), some (.int k), some (stt (W 9 q))]) := by
  have e1 : exL K1 nmBody [some (.lst (keys.map V.int)), some (.olst (nmV ps)), some (.int k), x] = exL K1 (tln 1 nmBody) [some (.lst (keys.map V.int)), some (.olst (nmV ps)), some (.int k), some (stt (W 9 []))] := by
    refine exL_asg (v := stt (W 9 [])) ?_ rfl
    show some (V.str true "&") = _
    rw [show ("&" : Str) = St8 (W 9 []) by decide +kernel]
  have e2 : exL K1 (tln 1 nmBody) [some (.lst (keys.map V.int)), some (.olst (nmV ps)), some (.int k), some (stt (W 9 []))] = exL K1 (tln 2 nmBody) [some (.lst (keys.map V.int)), some (.olst (nmV ps)), some (.int k), some (stt (W 9 q))] := by
    refine exL_next ?_
    rw [exS_whil]
    exact wh_run keys ps k hl hk 10 [] q (by decide) h
  rw [e1, e2]
  refine (exL_next (xs := .nil) (σ' := [some (.lst (keys.map V.int)), some (.olst (nmV (ps ++ [q]))), some (.int k), some (stt (W 9 q))]) ?_).trans rfl
  rw [exS_app]
  show (if ((stt (W 9 q)).plain && decide ((nmV ps).length ≤ lim)) = true then some (Fl.next, [some (.lst (keys.map V.int)), some (.olst (nmV ps ++ [stt (W 9 q)])), some (.int k), some (stt (W 9 q))]) else none) = _
  have hlim : lim = 100000 := rfl
  rw [decide_eq_true (show (nmV ps).length ≤ lim by rw [List.length_map, hlim]; lia)]
  rw [show nmV ps ++ [stt (W 9 q)] = nmV (ps ++ [q]) by unfold nmV; rw [List.map_append]; rfl]
  rfl

theorem nm_run (keys : List Int) (hk : keys.length ≤ 100) (a b : Option V) : ∀ (ks done : List Int) (ps qs : List (List Bool)) (a b : Option V), keys = done ++ ks → ps.length = done.length → namesP (fun u i => decide (keys.getD u 0 < keys.getD i 0)) ks.length ps = some qs →
    ∃ a' b', forL (putT 4 (.t1 177008177011 2)) (exL K1 nmBody) (exL K1 .nil) (ks.map V.int) [some (.lst (keys.map V.int)), some (.olst (nmV ps)), a, b] = some (.next, [some (.lst (keys.map V.int)), some (.olst (nmV qs)), a', b'])
  | [], done, ps, qs, a, b, _, _, h => by cases h; exact ⟨a, b, rfl⟩
  | k :: ks, done, ps, qs, a, b, he, hp, h => by
    have hlen : keys.length = done.length + (ks.length + 1) := by rw [he, List.length_append, List.length_cons]
    have hk0 : keys.getD ps.length 0 = k := by
      rw [hp, he, List.getD_eq_getElem?_getD, List.getElem?_append_right (Nat.le_refl _), Nat.sub_self]; rfl
    have h' : (match wk (fun i => decide (keys.getD ps.length 0 < keys.getD i 0)) ps 10 [] with | none => none | some q => namesP (fun u i => decide (keys.getD u 0 < keys.getD i 0)) ks.length (ps ++ [q])) = some qs := h
    rw [hk0] at h'
    split at h'
    · cases h'
    · rename_i q hq
      obtain ⟨a', b', ih⟩ := nm_run keys hk a b ks (done ++ [k]) (ps ++ [q]) qs (some (.int k)) (some (stt (W 9 q))) (by rw [he]; simp) (by rw [List.length_append, List.length_append, hp]; rfl) h'
      refine ⟨a', b', ?_⟩
      rw [List.map_cons]
      show Option.bind (exL K1 nmBody [some (.lst (keys.map V.int)), some (.olst (nmV ps)), some (.int k), b]) _ = _
      rw [nm_body keys ps k b (by lia) hk hq]
      exact ih

theorem names_K2 (keys : List Int) (hk : keys.length ≤ 100) {qs : List (List Bool)} (h : namesP (fun u i => decide (keys.getD u 0 < keys.getD i 0)) keys.length [] = some qs) : K2.F "_law_names" [.lst (keys.map V.int)] = some (.lst (nmV qs)) := by
  obtain ⟨a, b, e⟩ := nm_run keys hk none none keys [] [] qs none none rfl rfl h
  refine more_at (tabF_at (L := L2) rfl rfl (runF_of (σ := [some (.lst (keys.map V.int)), some (.olst (nmV qs)), a, b]) ?_))
  have s1 : exL K1 b_law_names [some (.lst (keys.map V.int)), none, none, none] = exL K1 (tln 1 b_law_names) [some (.lst (keys.map V.int)), some (.olst (nmV [])), none, none] := by
    refine exL_next ?_
    rw [exS_asgOwn]
    rfl
  have s2 : exL K1 (tln 1 b_law_names) [some (.lst (keys.map V.int)), some (.olst (nmV [])), none, none] = exL K1 (tln 2 b_law_names) [some (.lst (keys.map V.int)), some (.olst (nmV qs)), a, b] := by
    refine exL_next ?_
    show Option.bind (if plains (keys.map V.int) = true then some (keys.map V.int) else none) (fun vs => forL (putT 4 (.t1 177008177011 2)) (exL K1 nmBody) (exL K1 .nil) vs [some (.lst (keys.map V.int)), some (.olst (nmV [])), none, none]) = _
    rw [if_pos (show plains (keys.map V.int) = true from plain_ints keys)]
    exact e
  show exL K1 b_law_names [some (.lst (keys.map V.int)), none, none, none] = _
  rw [s1, s2]
  rfl
end Mine

namespace Mine
open PySem PySem.W PySem.Calls PyProof.Rows PySem.Builtin PySem.Builtin.Str PySem.StrLaws

/-! the escaped signs, and what is left of quoted parts -/
noncomputable def escI : Int → Bool → List Nat → List (Int × List Nat)
  | p, esc, [] => if esc then [(p - 1, [92])] else []
  | p, true, c :: cs => (p, [92, c]) :: escI (p + 1) false cs
  | p, false, c :: cs => if c == 92 then escI (p + 1) true cs else (p, [c]) :: escI (p + 1) false cs
noncomputable def φe (x : Int × List Nat) : V := .tup [.int x.1, sf x.2]
theorem escV_map : ∀ (l : List Nat) (p : Int) (e : Bool), escV p e l = (escI p e l).map φe
  | [], p, true => rfl
  | [], p, false => rfl
  | c :: cs, p, true => by
    show _ :: escV (p + 1) false cs = _ :: (escI (p + 1) false cs).map φe
    rw [escV_map cs]; rfl
  | c :: cs, p, false => by
    show (if c == 92 then escV (p + 1) true cs else _ :: escV (p + 1) false cs) = (if c == 92 then escI (p + 1) true cs else (p, [c]) :: escI (p + 1) false cs).map φe
    rw [escV_map cs, escV_map cs]
    split <;> rfl
theorem escI_len : ∀ (l : List Nat) (p : Int) (e : Bool), (escI p e l).length ≤ l.length + 1
  | [], p, true => Nat.le_refl _
  | [], p, false => Nat.zero_le _
  | c :: cs, p, true => by
    have := escI_len cs (p + 1) false
    show (_ :: escI (p + 1) false cs).length ≤ _
    simp only [List.length_cons]; lia
  | c :: cs, p, false => by
    have h1 := escI_len cs (p + 1) false
    have h2 := escI_len cs (p + 1) true
    show (if c == 92 then escI (p + 1) true cs else (p, [c]) :: escI (p + 1) false cs).length ≤ _
    split <;> simp only [List.length_cons] <;> lia

structure Sp where
  start : Int
  op : Option Int
  res : List Str
noncomputable def opV : Option Int → V
  | none => .none
  | some i => .int i
noncomputable def spStep (x : Str) (s : Sp) (c : Int × List Nat) : Sp :=
  if c.2 = [34] then (match s.op with
    | none => { s with op := some c.1 }
    | some o => ⟨c.1 + 1, none, if s.start = o then s.res else s.res ++ [Txt.slice x (some s.start) (some o)]⟩) else s
noncomputable def sfs (s : Str) : V := .str false s
noncomputable def spSto (b : Bool) (x : Str) (s : Sp) (a c : Option V) : Sto := [some (.str b x), some (.int s.start), some (opV s.op), some (.olst (s.res.map sfs)), a, c]
noncomputable def spBody : SL := match tln 4 b_strip_quoted_realnames with | .cons (.forr _ _ _ b _) _ => b | _ => .nil

theorem exL_app {K : Kx} {p q q1 q2 i : Nat} {x : X} {xs : SL} {σ : Sto} {vs : List V} {v : V} (h1 : ownAt σ i = some vs) (h2 : ev K x false σ = some v) (hp : v.plain = true) (hl : vs.length ≤ 100000) :
    exL K (.cons (.app p q q1 q2 i x) xs) σ = exL K xs (σ.set i (some (.olst (vs ++ [v])))) := by
  refine exL_next ?_
  rw [exS_app, h1]
  show Option.bind (ev K x false σ) _ = _
  rw [h2]
  show (if (v.plain && decide (vs.length ≤ lim)) = true then _ else none) = _
  rw [if_pos (by rw [hp, decide_eq_true (show vs.length ≤ lim from hl)]; rfl)]

theorem sp_body (K : Kx) (b : Bool) (x : Str) (hx : x.length ≤ 100000) (s : Sp) (hr : s.res.length ≤ 1000) (c : Int × List Nat) :
    exL K spBody (spSto b x s (some (.int c.1)) (some (sf c.2))) = some (.next, spSto b x (spStep x s c) (some (.int c.1)) (some (sf c.2))) := by
  have e1 : evT K (.cmp 126011126020 .Eq (.var 126011126013 5) (.cstr 126017126020 "\"")) (spSto b x s (some (.int c.1)) (some (sf c.2))) = some (decide (c.2 = [34])) := by
    show some (St8 c.2 == ("\"" : Str)) = _
    rw [show ("\"" : Str) = St8 [34] by decide +kernel, st_beq]
  unfold spStep
  by_cases hc : c.2 = [34]
  · rw [decide_eq_true hc] at e1
    rw [if_pos hc]
    cases ho : s.op with
    | none =>
      refine (exL_iffT e1 ((exL_iffT (σ' := spSto b x { s with op := some c.1 } (some (.int c.1)) (some (sf c.2))) ?_ ?_).trans rfl)).trans rfl
      · unfold spSto; rw [ho]; rfl
      · unfold spSto; rw [ho]; rfl
    | some o =>
      have e2 : evT K (.cmp 127015127031 .Is (.var 127015127023 2) (.cnone 127027127031)) (spSto b x s (some (.int c.1)) (some (sf c.2))) = some false := by
        unfold spSto; rw [ho]; rfl
      have e3 : evT K (.cmp 130019130036 .NotEq (.var 130019130024 1) (.var 130028130036 2)) (spSto b x s (some (.int c.1)) (some (sf c.2))) = some (!decide (s.start = o)) := by
        unfold spSto; rw [ho]
        show some (!(s.start == o)) = _
        congr 2
      refine (exL_iffT e1 ((exL_iffF e2 (σ' := spSto b x ⟨c.1 + 1, none, if s.start = o then s.res else s.res ++ [Txt.slice x (some s.start) (some o)]⟩ (some (.int c.1)) (some (sf c.2))) ?_).trans rfl)).trans rfl
      by_cases hso : s.start = o
      · rw [decide_eq_true hso] at e3
        rw [if_pos hso]
        refine (exL_iffF e3 rfl).trans ?_
        unfold spSto; rw [ho]; rfl
      · rw [decide_eq_false hso] at e3
        rw [if_neg hso]
        have e4 : ev K (.slc 131034131054 131039131053 (.var 131034131038 0) (.var 131039131044 1) (.var 131045131053 2)) false (spSto b x s (some (.int c.1)) (some (sf c.2))) = some (sfs (Txt.slice x (some s.start) (some o))) := by
          unfold spSto; rw [ho]
          show (if x.length ≤ lim then some (V.str false (Txt.slice x (some s.start) (some o))) else none) = _
          rw [if_pos (show x.length ≤ lim from hx)]; rfl
        refine (exL_iffT e3 ((exL_app (vs := s.res.map sfs) rfl e4 rfl (by rw [List.length_map]; lia)).trans rfl)).trans ?_
        rw [show s.res.map sfs ++ [sfs (Txt.slice x (some s.start) (some o))] = (s.res ++ [Txt.slice x (some s.start) (some o)]).map sfs by rw [List.map_append]; rfl]
        unfold spSto; rw [ho]; rfl
  · rw [decide_eq_false hc] at e1
    rw [if_neg hc]
    exact (exL_iffF e1 rfl).trans rfl

theorem sp_res_len (x : Str) (s : Sp) (c : Int × List Nat) : (spStep x s c).res.length ≤ s.res.length + 1 := by
  unfold spStep
  split
  · split
    · exact Nat.le_succ _
    · rename_i o ho
      show (if s.start = o then s.res else s.res ++ [Txt.slice x (some s.start) (some o)]).length ≤ _
      split
      · exact Nat.le_succ _
      · rw [List.length_append]; exact Nat.le_refl _
  · exact Nat.le_succ _
theorem sp_loop (K : Kx) (b : Bool) (x : Str) (hx : x.length ≤ 100000) : ∀ (its : List (Int × List Nat)) (s : Sp) (a c : Option V), s.res.length + its.length ≤ 1000 →
    ∃ a' c', forL (putT 6 (.t2 125008125015 125008125011 4 125013125015 5)) (exL K spBody) (exL K .nil) (its.map φe) (spSto b x s a c) = some (.next, spSto b x (its.foldl (spStep x) s) a' c')
  | [], s, a, c, _ => ⟨a, c, rfl⟩
  | i :: its, s, a, c, h => by
    rw [List.length_cons] at h
    have hl := sp_res_len x s i
    obtain ⟨a', c', ih⟩ := sp_loop K b x hx its (spStep x s i) (some (.int i.1)) (some (sf i.2)) (by lia)
    refine ⟨a', c', ?_⟩
    rw [List.map_cons]
    show Option.bind (exL K spBody (spSto b x s (some (.int i.1)) (some (sf i.2)))) _ = _
    rw [sp_body K b x hx s (by lia) i]
    exact ih

/-- what `_strip_quoted_realnames` gives of a text with a quote -/
noncomputable def spEnd (x : Str) (s : Sp) : List Str := if s.start < (x.length : Int) then s.res ++ [Txt.slice x (some s.start) none] else s.res
noncomputable def stripP (l : List Nat) : Str := if 34 ∈ l then Txt.join "" (spEnd (St8 l) ((escI 0 false l).foldl (spStep (St8 l)) ⟨0, none, []⟩)) else St8 l

theorem strsOf_sfs : ∀ ys : List Str, strsOf (ys.map sfs) = some ys := strsOf_map
theorem sp_res_all (x : Str) (s : Sp) (c : Int × List Nat) (h : ∀ y ∈ s.res, y.length ≤ x.length) : ∀ y ∈ (spStep x s c).res, y.length ≤ x.length := by
  unfold spStep
  split
  · split
    · exact h
    · rename_i o ho
      show ∀ y ∈ (if s.start = o then s.res else s.res ++ [Txt.slice x (some s.start) (some o)]), y.length ≤ x.length
      split
      · exact h
      · intro y hy
        rcases List.mem_append.mp hy with hy | hy
        · exact h y hy
        · rw [List.mem_singleton.mp hy]; exact Txt.slice_le _ _ _
  · exact h
theorem sp_fold (x : Str) : ∀ (its : List (Int × List Nat)) (s : Sp), (∀ y ∈ s.res, y.length ≤ x.length) → (∀ y ∈ (its.foldl (spStep x) s).res, y.length ≤ x.length) ∧ (its.foldl (spStep x) s).res.length ≤ s.res.length + its.length
  | [], s, h => ⟨h, Nat.le_refl _⟩
  | i :: its, s, h => by
    obtain ⟨h1, h2⟩ := sp_fold x its (spStep x s i) (sp_res_all x s i h)
    refine ⟨h1, ?_⟩
    have := sp_res_len x s i
    rw [List.length_cons]
    show (its.foldl (spStep x) (spStep x s i)).res.length ≤ _
    lia
theorem sum_le {n : Nat} : ∀ {ys : List Str}, (∀ y ∈ ys, y.length ≤ n) → (ys.map fun s : Str => s.length).sum ≤ ys.length * n
  | [], _ => Nat.zero_le _
  | y :: ys, h => by
    have h1 := h y (List.mem_cons_self ..)
    have h2 := sum_le fun z hz => h z (List.mem_cons_of_mem _ hz)
    rw [List.map_cons, List.sum_cons, List.length_cons, Nat.succ_mul]
    lia

theorem K1_gen (n : Bool) (l : List Nat) : K1.gen "_iter_escaped_chars" (.str n (St8 l)) = some ((escI 0 false l).map φe) := by
  have : genG "_iter_escaped_chars" (.str n (St8 l)) = some (escV 0 false l) := by
    unfold genG; rw [if_pos (by decide +kernel)]
  show (match genG "_iter_escaped_chars" (.str n (St8 l)) with | some v => some v | none => K0.gen "_iter_escaped_chars" (.str n (St8 l))) = _
  rw [this, escV_map]

theorem contains_quote (l : List Nat) : Txt.contains (St8 l) "\"" = decide (34 ∈ l) := by
  rw [show ("\"" : Str) = ⟨#[34]⟩ by decide +kernel, contains1]

theorem strip_K2 (n : Bool) (l : List Nat) (hl : l.length ≤ 100) : ∃ m, K2.F "_strip_quoted_realnames" [.str n (St8 l)] = some (.str m (stripP l)) := by
  have e0 : evT K1 (.cmp 120007120022 .NotIn (.cstr 120007120010 "\"") (.var 120018120022 0)) [some (.str n (St8 l)), none, none, none, none, none] = some (!decide (34 ∈ l)) := by
    show some (!Txt.contains (St8 l) "\"") = _
    rw [contains_quote]
  by_cases hq : 34 ∈ l
  · refine ⟨false, more_at (tabF_at (L := L2) rfl rfl ?_)⟩
    rw [decide_eq_true hq] at e0
    have hlen := escI_len l 0 false
    have hx : (St8 l).length ≤ 100000 := by rw [st_len]; lia
    obtain ⟨a, c, e⟩ := sp_loop K1 n (St8 l) hx (escI 0 false l) ⟨0, none, []⟩ none none (by show 0 + _ ≤ _; lia)
    obtain ⟨hall, hcnt⟩ := sp_fold (St8 l) (escI 0 false l) ⟨0, none, []⟩ (fun y hy => nomatch hy)
    have hcnt : ((escI 0 false l).foldl (spStep (St8 l)) ⟨0, none, []⟩).res.length ≤ 0 + (escI 0 false l).length := hcnt
    have hsp : stripP l = Txt.join "" (spEnd (St8 l) ((escI 0 false l).foldl (spStep (St8 l)) ⟨0, none, []⟩)) := if_pos hq
    rw [hsp]
    generalize (escI 0 false l).foldl (spStep (St8 l)) ⟨0, none, []⟩ = s at e hall hcnt ⊢
    have s1 : exL K1 b_strip_quoted_realnames [some (.str n (St8 l)), none, none, none, none, none] = exL K1 (tln 4 b_strip_quoted_realnames) (spSto n (St8 l) ⟨0, none, []⟩ none none) := (exL_iffF e0 rfl).trans rfl
    have s2 : exL K1 (tln 4 b_strip_quoted_realnames) (spSto n (St8 l) ⟨0, none, []⟩ none none) = exL K1 (tln 5 b_strip_quoted_realnames) (spSto n (St8 l) s a c) := by
      refine exL_next ?_
      rw [exS_forGen]
      show Option.bind (K1.gen "_iter_escaped_chars" (.str n (St8 l))) (fun vs => forL (putT 6 (.t2 125008125015 125008125011 4 125013125015 5)) (exL K1 spBody) (exL K1 .nil) vs (spSto n (St8 l) ⟨0, none, []⟩ none none)) = _
      rw [K1_gen]
      exact e
    have el : ev K1 (.bcall 134015134024 134015134018 "len" (.cons (.var 134019134023 0) .nil)) false (spSto n (St8 l) s a c) = some (.int (St8 l).length) := by
      show (if (St8 l).length ≤ lim then some (V.int (St8 l).length) else none) = _
      rw [if_pos (show (St8 l).length ≤ lim from hx)]
    have e5 : evT K1 (.cmp 134007134024 .Lt (.var 134007134012 1) (.bcall 134015134024 134015134018 "len" (.cons (.var 134019134023 0) .nil))) (spSto n (St8 l) s a c) = some (decide (s.start < ((St8 l).length : Int))) := by
      rw [evT_eq]
      rw [evE_cmp, el]; rfl
    have s3 : exL K1 (tln 5 b_strip_quoted_realnames) (spSto n (St8 l) s a c) = exL K1 (tln 6 b_strip_quoted_realnames) (spSto n (St8 l) { s with res := spEnd (St8 l) s } a c) := by
      unfold spEnd
      by_cases hlt : s.start < ((St8 l).length : Int)
      · rw [if_pos hlt]
        rw [decide_eq_true hlt] at e5
        have e6 : ev K1 (.slf 135022135034 135027135033 (.var 135022135026 0) (.var 135027135032 1)) false (spSto n (St8 l) s a c) = some (sfs (Txt.slice (St8 l) (some s.start) none)) := by
          show (if (St8 l).length ≤ lim then some (V.str false (Txt.slice (St8 l) (some s.start) none)) else none) = _
          rw [if_pos (show (St8 l).length ≤ lim from hx)]; rfl
        refine exL_iffT e5 ((exL_app (vs := s.res.map sfs) rfl e6 rfl (by rw [List.length_map]; lia)).trans ?_)
        rw [show s.res.map sfs ++ [sfs (Txt.slice (St8 l) (some s.start) none)] = (s.res ++ [Txt.slice (St8 l) (some s.start) none]).map sfs by rw [List.map_append]; rfl]
        rfl
      · rw [if_neg hlt]
        rw [decide_eq_false hlt] at e5
        exact exL_iffF e5 rfl
    refine runF_of (σ := spSto n (St8 l) { s with res := spEnd (St8 l) s } a c) ?_
    show exL K1 b_strip_quoted_realnames [some (.str n (St8 l)), none, none, none, none, none] = _
    rw [s1, s2, s3]
    refine exL_ret ?_ rfl
    have hend : ∀ y ∈ spEnd (St8 l) s, y.length ≤ (St8 l).length := by
      unfold spEnd
      split
      · intro y hy
        rcases List.mem_append.mp hy with hy | hy
        · exact hall y hy
        · rw [List.mem_singleton.mp hy]; exact Txt.slice_le _ _ _
      · exact hall
    have hsum := sum_le hend
    have hn : (spEnd (St8 l) s).length ≤ s.res.length + 1 := by
      unfold spEnd
      split
      · rw [List.length_append]; exact Nat.le_refl _
      · exact Nat.le_succ _
    have hx2 : (St8 l).length ≤ 100 := by rw [st_len]; exact hl
    have hmul : (spEnd (St8 l) s).length * (St8 l).length ≤ 102 * 100 := Nat.mul_le_mul (by lia) hx2
    show methV "join" (.str true "") [.olst ((spEnd (St8 l) s).map sfs)] = _
    show (match strsOf ((spEnd (St8 l) s).map sfs) with | some (zs : List Str) => if (zs.map (fun z : Str => z.length)).sum + zs.length * Str.length "" ≤ lim then some (V.str false (Txt.join "" zs)) else none | none => none) = _
    rw [strsOf_sfs]
    refine if_pos ?_
    have h0 : Str.length "" = 0 := rfl
    have hlim : lim = 100000 := rfl
    rw [h0, hlim]
    lia
  · refine ⟨n, more_at (tabF_at (L := L2) rfl rfl ?_)⟩
    rw [decide_eq_false hq] at e0
    have hsp : stripP l = St8 l := if_neg hq
    rw [hsp]
    exact runF_of (σ := [some (.str n (St8 l)), none, none, none, none, none]) (exL_iffR e0 rfl)
end Mine

namespace Mine
open PySem PySem.W PySem.Calls PyProof.Rows PySem.Builtin PySem.Builtin.Str PySem.StrLaws

noncomputable def cpGo : Int → List (Int × List Nat) → Option Int
  | o, [] => some o
  | o, c :: cs => if c.2 = [40] then cpGo (o + 1) cs else if c.2 = [41] then (if o - 1 < 0 then none else cpGo (o - 1) cs) else cpGo o cs
noncomputable def checkP (l : List Nat) : Bool := match cpGo 0 (escI 0 false (stripP l).cps.toList) with
  | none => false
  | some o => o == 0
noncomputable def cpBody : SL := match tln 2 b_check_parenthesis with | .cons (.forr _ _ _ b _) _ => b | _ => .nil

theorem cp_body (K : Kx) (x : Option V) (o : Int) (c : Int × List Nat) :
    exL K cpBody [x, some (.int o), some (.int c.1), some (sf c.2)] = if c.2 = [40] then some (.next, [x, some (.int (o + 1)), some (.int c.1), some (sf c.2)]) else if c.2 = [41] then (if o - 1 < 0 then some (.ret (.bool false), [x, some (.int (o - 1)), some (.int c.1), some (sf c.2)]) else some (.next, [x, some (.int (o - 1)), some (.int c.1), some (sf c.2)])) else some (.next, [x, some (.int o), some (.int c.1), some (sf c.2)]) := by
  have e1 : evT K (.cmp 141011141020 .Eq (.var 141011141013 3) (.cstr 141017141020 "(")) [x, some (.int o), some (.int c.1), some (sf c.2)] = some (decide (c.2 = [40])) := by
    show some (St8 c.2 == ("(" : Str)) = _
    rw [show ("(" : Str) = St8 [40] by decide +kernel, st_beq]
  have e2 : evT K (.cmp 143013143022 .Eq (.var 143013143015 3) (.cstr 143019143022 ")")) [x, some (.int o), some (.int c.1), some (sf c.2)] = some (decide (c.2 = [41])) := by
    show some (St8 c.2 == (")" : Str)) = _
    rw [show (")" : Str) = St8 [41] by decide +kernel, st_beq]
  by_cases h1 : c.2 = [40]
  · rw [decide_eq_true h1] at e1
    rw [if_pos h1]
    exact (exL_iffT e1 rfl).trans rfl
  · rw [decide_eq_false h1] at e1
    rw [if_neg h1]
    by_cases h2 : c.2 = [41]
    · rw [decide_eq_true h2] at e2
      rw [if_pos h2]
      have e3 : evT K (.cmp 145015145024 .Lt (.var 145015145020 1) (.cint 145023145024 0)) [x, some (.int (o - 1)), some (.int c.1), some (sf c.2)] = some (decide (o - 1 < 0)) := rfl
      by_cases h3 : o - 1 < 0
      · rw [decide_eq_true h3] at e3
        rw [if_pos h3]
        refine exL_iffE e1 (exL_iffR e2 ?_)
        exact (exL_next (σ' := [x, some (.int (o - 1)), some (.int c.1), some (sf c.2)]) rfl).trans (exL_iffR e3 rfl)
      · rw [decide_eq_false h3] at e3
        rw [if_neg h3]
        refine (exL_iffF e1 ((exL_iffT e2 ?_).trans rfl)).trans rfl
        exact (exL_next (σ' := [x, some (.int (o - 1)), some (.int c.1), some (sf c.2)]) rfl).trans ((exL_iffF e3 rfl).trans rfl)
    · rw [decide_eq_false h2] at e2
      rw [if_neg h2]
      exact (exL_iffF e1 ((exL_iffF e2 rfl).trans rfl)).trans rfl

theorem cp_loop (K : Kx) (x : Option V) : ∀ (its : List (Int × List Nat)) (o : Int) (a b : Option V),
    (∃ o' a' b', cpGo o its = some o' ∧ forL (putT 4 (.t2 140008140015 140008140011 2 140013140015 3)) (exL K cpBody) (exL K .nil) (its.map φe) [x, some (.int o), a, b] = some (.next, [x, some (.int o'), a', b'])) ∨
    (∃ σ, cpGo o its = none ∧ forL (putT 4 (.t2 140008140015 140008140011 2 140013140015 3)) (exL K cpBody) (exL K .nil) (its.map φe) [x, some (.int o), a, b] = some (.ret (.bool false), σ))
  | [], o, a, b => Or.inl ⟨o, a, b, rfl, rfl⟩
  | c :: its, o, a, b => by
    have hb := cp_body K x o c
    have hf : forL (putT 4 (.t2 140008140015 140008140011 2 140013140015 3)) (exL K cpBody) (exL K .nil) ((c :: its).map φe) [x, some (.int o), a, b] =
        Option.bind (exL K cpBody [x, some (.int o), some (.int c.1), some (sf c.2)]) fun r => match r with
          | (.next, σ'') => forL (putT 4 (.t2 140008140015 140008140011 2 140013140015 3)) (exL K cpBody) (exL K .nil) (its.map φe) σ''
          | (.cont, σ'') => forL (putT 4 (.t2 140008140015 140008140011 2 140013140015 3)) (exL K cpBody) (exL K .nil) (its.map φe) σ''
          | (.brk, σ'') => some (.next, σ'')
          | (.ret v, σ'') => some (.ret v, σ'') := rfl
    rw [hf, hb]
    unfold cpGo
    by_cases h1 : c.2 = [40]
    · rw [if_pos h1, if_pos h1]
      exact cp_loop K x its (o + 1) (some (.int c.1)) (some (sf c.2))
    · rw [if_neg h1, if_neg h1]
      by_cases h2 : c.2 = [41]
      · rw [if_pos h2, if_pos h2]
        by_cases h3 : o - 1 < 0
        · rw [if_pos h3, if_pos h3]
          exact Or.inr ⟨_, rfl, rfl⟩
        · rw [if_neg h3, if_neg h3]
          exact cp_loop K x its (o - 1) (some (.int c.1)) (some (sf c.2))
      · rw [if_neg h2, if_neg h2]
        exact cp_loop K x its o (some (.int c.1)) (some (sf c.2))

theorem check_K3 (n : Bool) (l : List Nat) (hl : l.length ≤ 100) : K3.F "_check_parenthesis" [.str n (St8 l)] = some (.bool (checkP l)) := by
  obtain ⟨m, hs⟩ := strip_K2 n l hl
  have s1 : exL K2 b_check_parenthesis [some (.str n (St8 l)), none, none, none] = exL K2 (tln 2 b_check_parenthesis) [some (.str m (stripP l)), some (.int 0), none, none] :=
    (exL_asg (v := .str m (stripP l)) (ev_gcall (vs := [.str n (St8 l)]) rfl hs rfl rfl) rfl).trans rfl
  have hg : K2.gen "_iter_escaped_chars" (.str m (stripP l)) = some ((escI 0 false (stripP l).cps.toList).map φe) := K1_gen m (stripP l).cps.toList
  have s2 : exS K2 (match tln 2 b_check_parenthesis with | .cons x _ => x | _ => sD) [some (.str m (stripP l)), some (.int 0), none, none] =
      forL (putT 4 (.t2 140008140015 140008140011 2 140013140015 3)) (exL K2 cpBody) (exL K2 .nil) ((escI 0 false (stripP l).cps.toList).map φe) [some (.str m (stripP l)), some (.int 0), none, none] := by
    show exS K2 (.forr _ _ (.gen _ _ _ _) _ _) _ = _
    rw [exS_forGen]
    show Option.bind (K2.gen "_iter_escaped_chars" (.str m (stripP l))) (fun vs => forL (putT 4 (.t2 140008140015 140008140011 2 140013140015 3)) (exL K2 cpBody) (exL K2 .nil) vs [some (.str m (stripP l)), some (.int 0), none, none]) = _
    rw [hg]
    rfl
  rcases cp_loop K2 (some (.str m (stripP l))) (escI 0 false (stripP l).cps.toList) 0 none none with ⟨o, a, b, h1, h2⟩ | ⟨σ, h1, h2⟩
  · refine more_at (tabF_at (L := L3) rfl rfl (runF_of (σ := [some (.str m (stripP l)), some (.int o), a, b]) ?_))
    show exL K2 b_check_parenthesis [some (.str n (St8 l)), none, none, none] = _
    rw [s1]
    refine (exL_next (σ' := [some (.str m (stripP l)), some (.int o), a, b]) (s2.trans h2)).trans (exL_ret ?_ rfl)
    unfold checkP
    rw [h1]
    rfl
  · refine more_at (tabF_at (L := L3) rfl rfl (runF_of (σ := σ) ?_))
    show exL K2 b_check_parenthesis [some (.str n (St8 l)), none, none, none] = _
    rw [s1]
    unfold checkP
    rw [h1]
    show exL K2 (.cons (match tln 2 b_check_parenthesis with | .cons x _ => x | _ => sD) _) _ = _
    rw [exL_cons, s2, h2]
    rfl
end Mine

namespace Mine
open PySem PySem.W PySem.Calls PyProof.Rows PySem.Builtin PySem.Builtin.Str PySem.StrLaws

noncomputable abbrev amp5 : List Nat := [38, 97, 109, 112, 59]
theorem ampK_lt {k : Nat} (hk : k < 5) : ampK k = amp5 := if_neg (by lia)
theorem codK_lt {k : Nat} (hk : k < 5) (b : Bool) : codK k b = escK k (sgn b) := if_neg (by lia)
theorem wrK_app (k : Nat) (l m : List Nat) : wrK k (l ++ m) = wrK k l ++ wrK k m := List.flatMap_append
theorem wrK_one (k d : Nat) : wrK k [d] = escK k d := by simp [wrK]
theorem wrK_amp {k : Nat} (hk : k < 5) : wrK k [38] = ampK k := by rw [wrK_one, ampK_lt hk]; rfl
theorem W_append (k : Nat) (p q : List Bool) : W k (p ++ q) = W k p ++ Wt k q := by
  unfold W Wt
  rw [List.flatMap_append, List.append_assoc]
theorem Wt_append (k : Nat) (p q : List Bool) : Wt k (p ++ q) = Wt k p ++ Wt k q := List.flatMap_append
theorem wrK_Wt {k : Nat} (hk : k < 5) : ∀ p : List Bool, wrK k (Wt 9 p) = Wt k p
  | [] => rfl
  | b :: p => by
    rw [Wt_cons, Wt_cons, wrK_app, wrK_app, wrK_Wt hk p]
    have h1 : wrK k (codK 9 b) = codK k b := by
      rw [codK_lt hk, show codK 9 b = [sgn b] by cases b <;> rfl, wrK_one]
    have h2 : wrK k (ampK 9) = ampK k := wrK_amp hk
    rw [h1, h2]
theorem wrK_W {k : Nat} (hk : k < 5) (p : List Bool) : wrK k (W 9 p) = W k p := by
  rw [W_eq, W_eq, wrK_app, wrK_Wt hk]
  have h2 : wrK k (ampK 9) = ampK k := wrK_amp hk
  rw [h2]
theorem wrK_lead {k : Nat} (hk : k < 5) (p : List Bool) (b : Bool) : wrK k (W 9 p ++ [sgn b]) = W k p ++ codK k b := by
  rw [wrK_app, wrK_W hk, wrK_one, codK_lt hk]

theorem cod_no46 {k : Nat} (hk : k < 5) (b : Bool) : 46 ∉ codK k b := by
  have : k = 0 ∨ k = 1 ∨ k = 2 ∨ k = 3 ∨ k = 4 := by lia
  rcases this with rfl | rfl | rfl | rfl | rfl <;> cases b <;> decide
theorem amp_no46 {k : Nat} (hk : k < 5) : 46 ∉ ampK k := by rw [ampK_lt hk]; decide
theorem Wt_no46 {k : Nat} (hk : k < 5) (p : List Bool) : 46 ∉ Wt k p := by
  induction p with
  | nil => exact List.not_mem_nil
  | cons b p ih =>
    rw [Wt_cons, List.mem_append, List.mem_append]
    rintro (h | h | h)
    · exact cod_no46 hk b h
    · exact amp_no46 hk h
    · exact ih h
theorem W_no46 {k : Nat} (hk : k < 5) (p : List Bool) : 46 ∉ W k p := by
  rw [W_eq, List.mem_append]
  rintro (h | h)
  · exact amp_no46 hk h
  · exact Wt_no46 hk p h
theorem cod_len {k : Nat} (hk : k < 5) (b : Bool) : (codK k b).length ≤ 4 := by
  have : k = 0 ∨ k = 1 ∨ k = 2 ∨ k = 3 ∨ k = 4 := by lia
  rcases this with rfl | rfl | rfl | rfl | rfl <;> cases b <;> decide
theorem Wt_len {k : Nat} (hk : k < 5) (p : List Bool) : (Wt k p).length ≤ 9 * p.length := by
  induction p with
  | nil => exact Nat.zero_le _
  | cons b p ih =>
    have h1 := cod_len hk b
    have h2 : (ampK k).length = 5 := by rw [ampK_lt hk]; rfl
    rw [Wt_cons, List.length_append, List.length_append, List.length_cons]
    lia
theorem W_len {k : Nat} (hk : k < 5) (p : List Bool) : (W k p).length ≤ 5 + 9 * p.length := by
  have h1 := Wt_len hk p
  have h2 : (ampK k).length = 5 := by rw [ampK_lt hk]; rfl
  rw [W_eq, List.length_append]
  lia
theorem W_ne (k : Nat) (p : List Bool) : W k p ≠ [] := by
  rw [W_eq]
  unfold ampK
  split <;> simp

theorem lead_t {k : Nat} (hk : k < 5 ∨ k = 9) (b : Bool) : ∀ p q : List Bool, Wt k p ++ codK k b <+: Wt k q → p ++ [b] <+: q
  | [], [], h => by
    have h' : codK k b <+: [] := h
    rw [List.prefix_nil] at h'
    exact absurd h' (cod_ne k hk b)
  | [], c :: q, h => by
    rw [Wt_cons] at h
    have h' : codK k b ++ [] <+: codK k c ++ (ampK k ++ Wt k q) := by rw [List.append_nil]; exact h
    have e := cod_prefix hk h'
    subst e
    exact List.cons_prefix_cons.mpr ⟨rfl, List.nil_prefix⟩
  | a :: p, [], h => by
    rw [Wt_cons] at h
    have h' : (codK k a ++ (ampK k ++ Wt k p)) ++ codK k b <+: [] := h
    rw [List.prefix_nil, List.append_eq_nil_iff, List.append_eq_nil_iff] at h'
    exact absurd h'.1.1 (cod_ne k hk a)
  | a :: p, c :: q, h => by
    rw [Wt_cons, Wt_cons, List.append_assoc] at h
    have e := cod_prefix hk h
    subst e
    rw [List.prefix_append_right_inj, List.append_assoc, List.prefix_append_right_inj] at h
    exact List.cons_prefix_cons.mpr ⟨rfl, lead_t hk b p q h⟩
theorem lead_prefix {k : Nat} (hk : k < 5 ∨ k = 9) (b : Bool) (p q : List Bool) : W k p ++ codK k b <+: W k q ↔ p ++ [b] <+: q := by
  constructor
  · intro h
    rw [W_eq, W_eq, List.append_assoc, List.prefix_append_right_inj] at h
    exact lead_t hk b p q h
  · rintro ⟨r, rfl⟩
    rw [W_append, W_snoc, List.append_assoc (W k p ++ codK k b)]
    exact List.prefix_append _ _

/-! `_ellipsis_match` of names, as written -/
theorem em_K2 {vs : List V} {v : V} (h : vs.length = 2) (hr : runF K0 nm_ellipsis_match b_ellipsis_match vs = some v) : K2.F "_ellipsis_match" vs = some v := up2 (by decide +kernel) (K1_esc rfl h hr)

theorem em_self {k : Nat} (hk : k < 5) (n m : Bool) (p : List Bool) (hp : p.length ≤ 20) : K2.F "_ellipsis_match" [.str n (St8 ((W k p ++ [61]) ++ D3 ++ (W k p ++ [61]))), .str m (St8 (W k p ++ [61]))] = some (.bool false) := by
  have hl := W_len hk p
  have h46 : 46 ∉ W k p ++ [61] := by
    rw [List.mem_append]
    rintro (h | h)
    · exact W_no46 hk p h
    · revert h; decide
  have hne : W k p ++ [61] ≠ [] := by simp
  refine em_K2 rfl ?_
  have := em_two n m (W k p ++ [61]) (W k p ++ [61]) [] h46 h46 hne hne (by simp only [List.length_append, List.length_cons, List.length_nil]; lia) (by simp only [List.length_append, List.length_cons, List.length_nil]; lia) (Nat.zero_le _)
  rw [decide_eq_false (by rw [List.prefix_nil]; exact hne)] at this
  exact this
theorem em_same {k : Nat} (hk : k < 5) (n m : Bool) (p q : List Bool) : K2.F "_ellipsis_match" [.str n (St8 (W k p ++ [61])), .str m (St8 (W k q ++ [61]))] = some (.bool (decide (p = q))) := by
  refine em_K2 rfl ?_
  rw [em_plain]
  · congr 2
    rw [Bool.eq_iff_iff, decide_eq_true_eq, decide_eq_true_eq]
    exact ⟨fun h => W_inj (Or.inl hk) (List.append_cancel_right h), fun h => by rw [h]⟩
  · rw [List.mem_append]
    rintro (h | h)
    · exact W_no46 hk p h
    · revert h; decide
theorem em_lead {k : Nat} (hk : k < 5) (n m : Bool) (p q : List Bool) (b : Bool) (hp : p.length ≤ 20) (hq : q.length ≤ 20) : K2.F "_ellipsis_match" [.str n (St8 ((W k p ++ codK k b) ++ (D3 ++ [61]))), .str m (St8 (W k q ++ [61]))] = some (.bool (decide (p ++ [b] <+: q))) := by
  have h1 := W_len hk p
  have h2 := W_len hk q
  have h3 := cod_len hk b
  refine em_K2 rfl ?_
  have := em_two n m (W k p ++ codK k b) [61] (W k q) (by
    rw [List.mem_append]
    rintro (h | h)
    · exact W_no46 hk p h
    · exact cod_no46 hk b h) (by decide) (by
    intro h
    exact W_ne k p (List.append_eq_nil_iff.mp h).1) (by decide) (by rw [List.length_append]; lia) (by decide) (by lia)
  rw [show jn [W k p ++ codK k b, [61]] = (W k p ++ codK k b) ++ (D3 ++ [61]) from List.append_assoc _ _ _] at this
  rw [this]
  congr 2
  rw [Bool.eq_iff_iff, decide_eq_true_eq, decide_eq_true_eq, lead_prefix (Or.inl hk)]
theorem em_twice {k : Nat} (hk : k < 5) (n m : Bool) (p r : List Bool) (b : Bool) (hp : p.length ≤ 20) (hr : r.length ≤ 20) :
    K2.F "_ellipsis_match" [.str n (St8 ((W k p ++ codK k b) ++ (D3 ++ amp5 ++ (D3 ++ amp5)) ++ (D3 ++ [61]))), .str m (St8 (W k (p ++ [b] ++ r) ++ [61]))] = some (.bool (decide (r ≠ []))) := by
  have h1 := W_len hk p
  have h2 := Wt_len hk r
  have h3 := cod_len hk b
  refine em_K2 rfl ?_
  have := em_four n m (W k p ++ codK k b) [61] amp5 (Wt k r) (by
    rw [List.mem_append]
    rintro (h | h)
    · exact W_no46 hk p h
    · exact cod_no46 hk b h) (by decide) (by decide) (by
    intro h
    exact W_ne k p (List.append_eq_nil_iff.mp h).1) (by decide) (by decide) (by rw [List.length_append]; lia) (by decide) (by decide) (by lia) (by
    cases r with
    | nil => exact Or.inl rfl
    | cons c r => exact Or.inr ⟨codK k c, Wt k r, by rw [Wt_cons, ampK_lt hk, List.append_assoc]⟩)
  have e1 : jn [W k p ++ codK k b, amp5, amp5, [61]] = (W k p ++ codK k b) ++ (D3 ++ amp5 ++ (D3 ++ amp5)) ++ (D3 ++ [61]) := by
    show (W k p ++ codK k b) ++ D3 ++ (amp5 ++ D3 ++ (amp5 ++ D3 ++ [61])) = _
    simp only [List.append_assoc]
  have e2 : W k p ++ codK k b ++ amp5 ++ Wt k r ++ [61] = W k (p ++ [b] ++ r) ++ [61] := by
    rw [W_append, W_snoc, ampK_lt hk]
  rw [e1, e2] at this
  rw [this]
  congr 2
  rw [Bool.eq_iff_iff, decide_eq_true_eq, decide_eq_true_eq]
  cases r with
  | nil => exact ⟨fun h => absurd rfl h, fun h => absurd rfl h⟩
  | cons c r =>
    refine ⟨fun _ => by simp, fun _ h => ?_⟩
    rw [Wt_cons, List.append_eq_nil_iff] at h
    exact cod_ne k (Or.inl hk) c h.1
end Mine

namespace Mine
open PySem PySem.W PySem.Calls PyProof.Rows PySem.Builtin PySem.Builtin.Str PySem.StrLaws

noncomputable abbrev vN (ps : List (List Bool)) : V := .lst (nmV ps)
noncomputable abbrev vW (k : Nat) (ps : List (List Bool)) : V := .lst (ps.map fun p => stt (W k p))
noncomputable abbrev vS (sd : Nat → Nat → List Nat) : V := .lst (rng5.map fun u => .lst (rng5.map fun v => stt (sd u v)))
noncomputable abbrev tw5 : List Nat := D3 ++ amp5 ++ (D3 ++ amp5)
noncomputable abbrev pt (ps : List (List Bool)) (u : Nat) : List Bool := ps.getD u []
noncomputable abbrev ldV (k : Nat) (p : List Bool) : V := .lst ([true, false].map fun b => .tup [sf [sgn b], stt (W k p ++ codK k b)])

structure TreeOK (ps : List (List Bool)) (sd : Nat → Nat → List Nat) : Prop where
  len : ps.length = 5
  short : ∀ u, u < 5 → (pt ps u).length ≤ 10
  same : ∀ u, u < 5 → ∀ v, v < 5 → decide (pt ps u = pt ps v) = decide (u = v)
  side : ∀ u, u < 5 → ∀ v, v < 5 → ∀ b, decide (sd u v = [sgn b]) = decide (pt ps u ++ [b] <+: pt ps v)
  mid : ∀ u, u < 5 → ∀ v, v < 5 → ∀ b, pt ps u ++ [b] <+: pt ps v → (rng5.filter fun w => decide (sd u w ≠ []) && decide (sd w v ≠ [])).isEmpty = decide (pt ps v = pt ps u ++ [b])

theorem pt_some {ps : List (List Bool)} (h : ps.length = 5) {u : Nat} (hu : u < 5) : ps[u]? = some (pt ps u) := by
  unfold pt
  rw [List.getD_eq_getElem?_getD, List.getElem?_eq_getElem (by omega)]; rfl
theorem rng5_at {u : Nat} (hu : u < 5) : rng5[u]? = some u := by revert u; decide

noncomputable def wyFor : S := match tln 1 b_law_ways_are_told with | .cons x _ => x | _ => sD
noncomputable def wyBody : SL := match wyFor with | .forr _ _ _ b _ => b | _ => .nil
noncomputable def wyV : S := match tln 3 wyBody with | .cons x _ => x | _ => sD
noncomputable def wvBody : SL := match wyV with | .forr _ _ _ b _ => b | _ => .nil
noncomputable def wyS : S := match tln 1 wvBody with | .cons x _ => x | _ => sD
noncomputable def wsBody : SL := match wyS with | .forr _ _ _ b _ => b | _ => .nil

theorem vS_plain (sd : Nat → Nat → List Nat) : (vS sd).plain = true := plains_map (fun u => V.lst (rng5.map fun v => stt (sd u v))) (fun u => plains_map (fun v => stt (sd u v)) (fun _ => rfl) rng5) rng5
theorem ev_var {K : Kx} {p i : Nat} {σ : Sto} {v : V} (h : σ.at i = some v) : ev K (.var p i) false σ = some v := by rw [evE_var]; exact h
theorem ev_idx {K : Kx} {p : Nat} {a i : X} {σ : Sto} {x y : V} (ha : ev K a false σ = some x) (hi : ev K i false σ = some y) : ev K (.idx p a i) false σ = subK K x y := by
  rw [evE_idx, ha, hi]; rfl
theorem side_at {K : Kx} {p q p1 p2 p3 i j l : Nat} {σ : Sto} {sd : Nat → Nat → List Nat} {u v : Nat} (hS : σ.at i = some (vS sd)) (hu : σ.at j = some (iv u)) (hv : σ.at l = some (iv v)) (h5 : u < 5) (h5' : v < 5) :
    ev K (.idx p (.idx q (.var p1 i) (.var p2 j)) (.var p3 l)) false σ = some (stt (sd u v)) := by
  have e1 : ev K (.idx q (.var p1 i) (.var p2 j)) false σ = some (.lst (rng5.map fun v => stt (sd u v))) := by
    rw [ev_idx (ev_var hS) (ev_var hu)]
    show atV (rng5.map fun u => V.lst (rng5.map fun v => stt (sd u v))) (u : Int) = _
    rw [atV_map (by omega) (rng5_at h5)]
  rw [ev_idx e1 (ev_var hv)]
  show atV (rng5.map fun v => stt (sd u v)) (v : Int) = _
  exact atV_map (by omega) (rng5_at h5')

section
variable {k : Nat} {ps : List (List Bool)} {sd : Nat → Nat → List Nat}

noncomputable abbrev wSto (k : Nat) (ps : List (List Bool)) (sd : Nat → Nat → List Nat) (u : Nat) (x7 x9 x10 x11 x12 : Option V) : Sto :=
  [some (iv k), some (vN ps), some (vW k ps), some (vS sd), some (sf tw5), some (iv u), some (stt (W k (pt ps u) ++ [61])), x7, some (ldV k (pt ps u)), x9, x10, x11, x12]

theorem vW_at (hk : k < 5) (T : TreeOK ps sd) {K : Kx} {p p1 p2 i j : Nat} {σ : Sto} {u : Nat} (hW : σ.at i = some (vW k ps)) (hu : σ.at j = some (iv u)) (h5 : u < 5) : ev K (.idx p (.var p1 i) (.var p2 j)) false σ = some (stt (W k (pt ps u))) := by
  rw [ev_idx (ev_var hW) (ev_var hu)]
  show atV (ps.map fun p => stt (W k p)) (u : Int) = _
  exact atV_map (by omega) (pt_some T.len h5)
theorem add_str {n m : Bool} {x y : List Nat} (h : x.length + y.length ≤ 100000) : binV .Add (.str n (St8 x)) (.str m (St8 y)) = some (.str (n && m) (St8 (x ++ y))) := by
  show (if (St8 x).length + (St8 y).length ≤ lim then some (V.str (n && m) (St8 x ++ St8 y)) else none) = _
  rw [st_len, st_len, if_pos (show x.length + y.length ≤ lim from h), st_app]
theorem eq_lit : ("=" : Str) = St8 [61] := by decide +kernel
theorem dots_lit : ("...=" : Str) = St8 (D3 ++ [61]) := by decide +kernel
/-- a written name and = -/
theorem vW_eq (hk : k < 5) (T : TreeOK ps sd) {K : Kx} {q q2 p p1 p2 i j : Nat} {σ : Sto} {u : Nat} (hW : σ.at i = some (vW k ps)) (hu : σ.at j = some (iv u)) (h5 : u < 5) : ev K (.bin q .Add (.idx p (.var p1 i) (.var p2 j)) (.cstr q2 "=")) false σ = some (stt (W k (pt ps u) ++ [61])) := by
  rw [evE_bin, vW_at hk T hW hu h5]
  show binV .Add (stt (W k (pt ps u))) (.str true "=") = _
  have := W_len hk (pt ps u)
  have := T.short u h5
  rw [eq_lit, add_str (by show _ + 1 ≤ _; lia)]; rfl

theorem evT_isnot {K : Kx} {p : Nat} {a b : X} {σ : Sto} {x y : Bool} (ha : ev K a false σ = some (.bool x)) (hb : ev K b false σ = some (.bool y)) (h : x = y) : evT K (.cmp p .IsNot a b) σ = some false := by
  rw [evT_eq]
  rw [evE_cmp, ha, hb, h]
  show some (!(y == y)) = _
  cases y <;> rfl

/-- a sign's turn -/
theorem ws_body (hk : k < 5) (T : TreeOK ps sd) {u v : Nat} (hu : u < 5) (hv : v < 5) (b : Bool) (x11 x12 : Option V) :
    ∃ y11 y12, exL K2 wsBody (wSto k ps sd u (some (sf [sgn b])) (some (iv v)) (some (stt (W k (pt ps u) ++ codK k b))) x11 x12) = some (.next, wSto k ps sd u (some (sf [sgn b])) (some (iv v)) (some (stt (W k (pt ps u) ++ codK k b))) y11 y12) := by
  have hpu := T.short u hu
  have hpv := T.short v hv
  have hl1 := W_len hk (pt ps u)
  have hl2 := cod_len hk b
  have hsd : ∀ {p q p1 p2 p3 q1 q2 : Nat} {y11 y12 : Option V}, ev K2 (.cmp q1 .Eq (.idx p (.idx q (.var p1 3) (.var p2 5)) (.var p3 9)) (.var q2 7)) false (wSto k ps sd u (some (sf [sgn b])) (some (iv v)) (some (stt (W k (pt ps u) ++ codK k b))) y11 y12) = some (.bool (decide (sd u v = [sgn b]))) := fun {p q p1 p2 p3 q1 q2 y11 y12} => by
    rw [evE_cmp, side_at (sd := sd) (u := u) (v := v) rfl rfl rfl hu hv]
    show some (V.bool (St8 (sd u v) == St8 [sgn b])) = _
    rw [st_beq]
  have s1 : exL K2 wsBody (wSto k ps sd u (some (sf [sgn b])) (some (iv v)) (some (stt (W k (pt ps u) ++ codK k b))) x11 x12) = exL K2 (tln 1 wsBody) (wSto k ps sd u (some (sf [sgn b])) (some (iv v)) (some (stt (W k (pt ps u) ++ codK k b))) (some (.bool (decide (sd u v = [sgn b])))) x12) :=
    exL_asg hsd rfl
  have hlead : ∀ {p p1 : Nat} {y11 y12 : Option V}, ev K2 (.bin p .Add (.var p1 10) (.cstr 200042200048 "...=")) false (wSto k ps sd u (some (sf [sgn b])) (some (iv v)) (some (stt (W k (pt ps u) ++ codK k b))) y11 y12) = some (stt ((W k (pt ps u) ++ codK k b) ++ (D3 ++ [61]))) := fun {p p1 y11 y12} => by
    rw [evE_bin]
    show binV .Add (stt (W k (pt ps u) ++ codK k b)) (.str true "...=") = _
    rw [dots_lit, add_str (by rw [List.length_append]; show _ + 4 ≤ _; omega)]; rfl
  have e2 : evT K2 (match tln 1 wsBody with | .cons (.iff _ c _ _) _ => c | _ => xD) (wSto k ps sd u (some (sf [sgn b])) (some (iv v)) (some (stt (W k (pt ps u) ++ codK k b))) (some (.bool (decide (sd u v = [sgn b])))) x12) = some false := by
    refine evT_isnot (x := decide (pt ps u ++ [b] <+: pt ps v)) (y := decide (sd u v = [sgn b])) ?_ rfl (T.side u hu v hv b).symm
    refine ev_gcall (vs := [stt ((W k (pt ps u) ++ codK k b) ++ (D3 ++ [61])), stt (W k (pt ps v) ++ [61])]) ?_ (em_lead hk true true (pt ps u) (pt ps v) b (by omega) (by omega)) rfl rfl
    rw [evL_cons, hlead, evL_cons, vW_eq hk T rfl rfl hv, evL_nil]; rfl
  have s2 : exL K2 (tln 1 wsBody) (wSto k ps sd u (some (sf [sgn b])) (some (iv v)) (some (stt (W k (pt ps u) ++ codK k b))) (some (.bool (decide (sd u v = [sgn b])))) x12) = exL K2 (tln 2 wsBody) (wSto k ps sd u (some (sf [sgn b])) (some (iv v)) (some (stt (W k (pt ps u) ++ codK k b))) (some (.bool (decide (sd u v = [sgn b])))) x12) := exL_iffF e2 rfl
  have e3 : evT K2 (.var 202019202024 11) (wSto k ps sd u (some (sf [sgn b])) (some (iv v)) (some (stt (W k (pt ps u) ++ codK k b))) (some (.bool (decide (sd u v = [sgn b])))) x12) = some (decide (sd u v = [sgn b])) := rfl
  rw [s1, s2]
  by_cases hb : sd u v = [sgn b]
  · have hb' := hb
    have hT := T.side u hu v hv b
    rw [decide_eq_true hb] at hT
    replace e3 := e3.trans (congrArg some (decide_eq_true hb))
    have hpre : pt ps u ++ [b] <+: pt ps v := of_decide_eq_true hT.symm
    have hmid := T.mid u hu v hv b hpre
    refine ⟨some (.bool (decide (sd u v = [sgn b]))), some (.lst ((rng5.filter fun w => decide (sd u w ≠ []) && decide (sd w v ≠ [])).map iv)), (exL_iffT (xs := .nil) e3 ?_).trans rfl⟩
    have ec : ev K2 (match tln 2 wsBody with | .cons (.iff _ _ (.cons (.asg _ _ _ x) _) _) _ => x | _ => xD) false (wSto k ps sd u (some (sf [sgn b])) (some (iv v)) (some (stt (W k (pt ps u) ++ codK k b))) (some (.bool (decide (sd u v = [sgn b])))) x12) = some (.lst ((rng5.filter fun w => decide (sd u w ≠ []) && decide (sd w v ≠ [])).map iv)) := by
      refine ev_comp (evI_rng5 _ _ _ _ _) (caps_cons rfl (vS_plain sd) (caps_cons rfl rfl (caps_cons rfl rfl rfl))) (by decide) ?_
      refine compL_gen iv (fun w => decide (sd u w ≠ []) && decide (sd w v ≠ [])) iv (fun σ => ∃ x, σ = [x, some (vS sd), some (iv u), some (iv v)]) rng5 _ ?_ ⟨none, rfl⟩
      rintro w hw σ ⟨x, rfl⟩
      refine ⟨[some (iv w), some (vS sd), some (iv u), some (iv v)], rfl, ⟨_, rfl⟩, ?_, fun _ => ⟨rfl, rfl⟩⟩
      have hw5 := rng5_lt w hw
      have g1 : unB (ev K2 (.cmp 203054203071 .NotEq (.idx 203054203065 (.idx 203054203062 (.var 203054203059 1) (.var 203060203061 2)) (.var 203063203064 0)) (.cstr 203069203071 "")) true [some (iv w), some (vS sd), some (iv u), some (iv v)]) = some (decide (sd u w ≠ [])) := by
        rw [evE_cmp, side_at (sd := sd) (u := u) (v := w) rfl rfl rfl hu hw5]
        show some (!(St8 (sd u w) == ("" : Str))) = _
        rw [show ("" : Str) = St8 [] from rfl, st_beq]; simp
      have g2 : unB (ev K2 (.cmp 203076203093 .NotEq (.idx 203076203087 (.idx 203076203084 (.var 203076203081 1) (.var 203082203083 0)) (.var 203085203086 3)) (.cstr 203091203093 "")) true [some (iv w), some (vS sd), some (iv u), some (iv v)]) = some (decide (sd w v ≠ [])) := by
        rw [evE_cmp, side_at (sd := sd) (u := w) (v := v) rfl rfl rfl hw5 hv]
        show some (!(St8 (sd w v) == ("" : Str))) = _
        rw [show ("" : Str) = St8 [] from rfl, st_beq]; simp
      rw [evC_some, evE_boo, g1]
      cases decide (sd u w ≠ []) with
      | false => rfl
      | true =>
        show unB (Option.map V.bool (unB (ev K2 _ true _))) = _
        rw [g2]; rfl
    refine (exL_asg ec (σ' := wSto k ps sd u (some (sf [sgn b])) (some (iv v)) (some (stt (W k (pt ps u) ++ codK k b))) (some (.bool (decide (sd u v = [sgn b])))) (some (.lst ((rng5.filter fun w => decide (sd u w ≠ []) && decide (sd w v ≠ [])).map iv)))) ?_).trans ?_
    · show putV 12 (V.lst _) _ = _
      unfold putV
      rw [if_pos (by rw [plain_ivs]; rfl)]
      rfl
    · obtain ⟨r, hr⟩ := hpre
      refine (exL_iffF (evT_isnot (x := decide (r ≠ [])) (y := !decide (r = [])) ?_ ?_ (by simp)) rfl).trans rfl
      · have hrl : r.length ≤ 10 := by
          have := congrArg List.length hr
          rw [List.length_append] at this
          omega
        have hem := em_twice hk false true (pt ps u) r b (by omega) (by omega)
        rw [hr] at hem
        refine ev_gcall (vs := [sf ((W k (pt ps u) ++ codK k b) ++ tw5 ++ (D3 ++ [61])), stt (W k (pt ps v) ++ [61])]) ?_ hem rfl rfl
        have e : ev K2 (.bin 204039204060 .Add (.bin 204039204051 .Add (.var 204039204043 10) (.var 204046204051 4)) (.cstr 204054204060 "...=")) false (wSto k ps sd u (some (sf [sgn b])) (some (iv v)) (some (stt (W k (pt ps u) ++ codK k b))) (some (.bool (decide (sd u v = [sgn b])))) (some (.lst ((rng5.filter fun w => decide (sd u w ≠ []) && decide (sd w v ≠ [])).map iv)))) = some (sf ((W k (pt ps u) ++ codK k b) ++ tw5 ++ (D3 ++ [61]))) := by
          have e' : ev K2 (.bin 204039204051 .Add (.var 204039204043 10) (.var 204046204051 4)) false (wSto k ps sd u (some (sf [sgn b])) (some (iv v)) (some (stt (W k (pt ps u) ++ codK k b))) (some (.bool (decide (sd u v = [sgn b])))) (some (.lst ((rng5.filter fun w => decide (sd u w ≠ []) && decide (sd w v ≠ [])).map iv)))) = some (sf ((W k (pt ps u) ++ codK k b) ++ tw5)) := by
            rw [evE_bin]
            show binV .Add (stt (W k (pt ps u) ++ codK k b)) (sf tw5) = _
            rw [add_str (by rw [List.length_append]; show _ + 16 ≤ _; omega)]; rfl
          rw [evE_bin, e']
          show binV .Add (sf ((W k (pt ps u) ++ codK k b) ++ tw5)) (.str true "...=") = _
          rw [dots_lit, add_str (by rw [List.length_append, List.length_append]; show _ + 16 + 4 ≤ _; omega)]; rfl
        rw [evL_cons, e, evL_cons, vW_eq hk T rfl rfl hv, evL_nil]; rfl
      · have hcnt : (rng5.filter fun w => decide (sd u w ≠ []) && decide (sd w v ≠ [])).isEmpty = decide (r = []) := by
          rw [hmid, ← hr, Bool.eq_iff_iff, decide_eq_true_eq, decide_eq_true_eq]
          exact ⟨fun h => by simpa using h, fun h => by rw [h, List.append_nil]⟩
        rw [← hcnt]
        show Option.map V.bool (if ((rng5.filter fun w => decide (sd u w ≠ []) && decide (sd w v ≠ [])).map iv).length == ([] : List V).length then (eqsL ((rng5.filter fun w => decide (sd u w ≠ []) && decide (sd w v ≠ [])).map iv) []).map (!·) else some true) = _
        cases rng5.filter fun w => decide (sd u w ≠ []) && decide (sd w v ≠ []) with
        | nil => rfl
        | cons a as => rfl
  · replace e3 := e3.trans (congrArg some (decide_eq_false hb))
    exact ⟨some (.bool (decide (sd u v = [sgn b]))), x12, (exL_iffF (xs := .nil) e3 rfl).trans rfl⟩
end
end Mine

namespace Mine
open PySem PySem.W PySem.Calls PyProof.Rows PySem.Builtin PySem.Builtin.Str PySem.StrLaws

noncomputable def plainIt : It → Bool | .own .. => false | .gen .. => false | _ => true
theorem exS_forI (K : Kx) (p : Nat) (t : T) (it : It) (b o : SL) (σ : Sto) (vs : List V) (h : evI K it σ = some vs) (hn : plainIt it = true) : exS K (.forr p t it b o) σ = forL (putT σ.length t) (exL K b) (exL K o) vs σ := by
  cases it with
  | own p i => cases hn
  | gen p q id x => cases hn
  | val x =>
    first | rw [exS_forVal, h]; rfl | rw [exS_forRng, h]; rfl | rw [exS_forEnm, h]; rfl
  | rng p q x =>
    first | rw [exS_forVal, h]; rfl | rw [exS_forRng, h]; rfl | rw [exS_forEnm, h]; rfl
  | enm p q x =>
    first | rw [exS_forVal, h]; rfl | rw [exS_forRng, h]; rfl | rw [exS_forEnm, h]; rfl

section
variable {k : Nat} {ps : List (List Bool)} {sd : Nat → Nat → List Nat}

theorem wv_body (hk : k < 5) (T : TreeOK ps sd) {u v : Nat} (hu : u < 5) (hv : v < 5) (x7 x10 x11 x12 : Option V) :
    ∃ y7 y10 y11 y12, exL K2 wvBody (wSto k ps sd u x7 (some (iv v)) x10 x11 x12) = some (.next, wSto k ps sd u y7 (some (iv v)) y10 y11 y12) := by
  have e1 : evT K2 (match wvBody with | .cons (.iff _ c _ _) _ => c | _ => xD) (wSto k ps sd u x7 (some (iv v)) x10 x11 x12) = some false := by
    refine evT_isnot (x := decide (pt ps u = pt ps v)) (y := decide (u = v)) ?_ ?_ (T.same u hu v hv)
    · refine ev_gcall (vs := [stt (W k (pt ps u) ++ [61]), stt (W k (pt ps v) ++ [61])]) ?_ (em_same hk true true (pt ps u) (pt ps v)) rfl rfl
      rw [evL_cons, ev_var (v := stt (W k (pt ps u) ++ [61])) rfl, evL_cons, vW_eq hk T rfl rfl hv, evL_nil]; rfl
    · show some (V.bool ((u : Int) == (v : Int))) = _
      congr 2
      rw [Bool.eq_iff_iff, beq_iff_eq, decide_eq_true_eq]
      lia
  have s1 : exL K2 wvBody (wSto k ps sd u x7 (some (iv v)) x10 x11 x12) = exL K2 (tln 1 wvBody) (wSto k ps sd u x7 (some (iv v)) x10 x11 x12) := exL_iffF e1 rfl
  obtain ⟨τ, hτ, e2⟩ := forL_gen (put := putT 13 (.t2 198016198026 198016198020 7 198022198026 10)) (body := exL K2 wsBody) (els := exL K2 .nil) (fun b : Bool => V.tup [sf [sgn b], stt (W k (pt ps u) ++ codK k b)])
    (fun σ => ∃ x7 x10 x11 x12, σ = wSto k ps sd u x7 (some (iv v)) x10 x11 x12) [true, false] (wSto k ps sd u x7 (some (iv v)) x10 x11 x12) (by
      rintro b hb σ ⟨x7, x10, x11, x12, rfl⟩
      obtain ⟨y11, y12, e⟩ := ws_body hk T hu hv b x11 x12
      exact ⟨_, _, rfl, e, _, _, _, _, rfl⟩) ⟨_, _, _, _, rfl⟩
  obtain ⟨y7, y10, y11, y12, rfl⟩ := hτ
  refine ⟨y7, y10, y11, y12, s1.trans ((exL_next (xs := .nil) ?_).trans rfl)⟩
  rw [exS_forI (vs := [true, false].map fun b => .tup [sf [sgn b], stt (W k (pt ps u) ++ codK k b)]) (h := rfl) (hn := rfl)]
  exact e2

theorem wy_body (hk : k < 5) (T : TreeOK ps sd) {u : Nat} (hu : u < 5) (x6 x7 x8 x9 x10 x11 x12 : Option V) :
    ∃ y6 y7 y8 y9 y10 y11 y12, exL K2 wyBody [some (iv k), some (vN ps), some (vW k ps), some (vS sd), some (sf tw5), some (iv u), x6, x7, x8, x9, x10, x11, x12] = some (.next, [some (iv k), some (vN ps), some (vW k ps), some (vS sd), some (sf tw5), some (iv u), y6, y7, y8, y9, y10, y11, y12]) := by
  have hpu := T.short u hu
  have hl1 := W_len hk (pt ps u)
  have s1 : exL K2 wyBody [some (iv k), some (vN ps), some (vW k ps), some (vS sd), some (sf tw5), some (iv u), x6, x7, x8, x9, x10, x11, x12] = exL K2 (tln 1 wyBody) [some (iv k), some (vN ps), some (vW k ps), some (vS sd), some (sf tw5), some (iv u), some (stt (W k (pt ps u) ++ [61])), x7, x8, x9, x10, x11, x12] :=
    exL_asg (vW_eq hk T rfl rfl hu) rfl
  have s2 : exL K2 (tln 1 wyBody) [some (iv k), some (vN ps), some (vW k ps), some (vS sd), some (sf tw5), some (iv u), some (stt (W k (pt ps u) ++ [61])), x7, x8, x9, x10, x11, x12] = exL K2 (tln 2 wyBody) [some (iv k), some (vN ps), some (vW k ps), some (vS sd), some (sf tw5), some (iv u), some (stt (W k (pt ps u) ++ [61])), x7, x8, x9, x10, x11, x12] := by
    refine exL_iffF (evT_isnot (x := false) (y := false) ?_ rfl rfl) rfl
    refine ev_gcall (vs := [stt ((W k (pt ps u) ++ [61]) ++ D3 ++ (W k (pt ps u) ++ [61])), stt (W k (pt ps u) ++ [61])]) ?_ (em_self hk true true (pt ps u) (by lia)) rfl rfl
    have e1 : ev K2 (.bin 192027192042 .Add (.var 192027192034 6) (.cstr 192037192042 "...")) false [some (iv k), some (vN ps), some (vW k ps), some (vS sd), some (sf tw5), some (iv u), some (stt (W k (pt ps u) ++ [61])), x7, x8, x9, x10, x11, x12] = some (stt ((W k (pt ps u) ++ [61]) ++ D3)) := by
      rw [evE_bin]
      show binV .Add (stt (W k (pt ps u) ++ [61])) (.str true "...") = _
      rw [dots_eq, add_str (by rw [List.length_append]; show _ + 1 + 3 ≤ _; lia)]; rfl
    have e2 : ev K2 (.bin 192027192052 .Add (.bin 192027192042 .Add (.var 192027192034 6) (.cstr 192037192042 "...")) (.var 192045192052 6)) false [some (iv k), some (vN ps), some (vW k ps), some (vS sd), some (sf tw5), some (iv u), some (stt (W k (pt ps u) ++ [61])), x7, x8, x9, x10, x11, x12] = some (stt ((W k (pt ps u) ++ [61]) ++ D3 ++ (W k (pt ps u) ++ [61]))) := by
      rw [evE_bin, e1]
      show binV .Add (stt ((W k (pt ps u) ++ [61]) ++ D3)) (stt (W k (pt ps u) ++ [61])) = _
      rw [add_str (by rw [List.length_append, List.length_append]; show _ + 1 + 3 + (_ + 1) ≤ _; lia)]; rfl
    rw [evL_cons, e2, evL_cons, ev_var (v := stt (W k (pt ps u) ++ [61])) rfl, evL_nil]; rfl
  have s3 : exL K2 (tln 2 wyBody) [some (iv k), some (vN ps), some (vW k ps), some (vS sd), some (sf tw5), some (iv u), some (stt (W k (pt ps u) ++ [61])), x7, x8, x9, x10, x11, x12] = exL K2 (tln 3 wyBody) (wSto k ps sd u x7 x9 x10 x11 x12) := by
    refine exL_asg (v := ldV k (pt ps u)) ?_ rfl
    refine ev_comp (vs := [true, false].map fun b => sf [sgn b]) (ws := [true, false].map fun b => .tup [sf [sgn b], stt (W k (pt ps u) ++ codK k b)]) rfl (cs := [some (vN ps), some (iv u), some (iv k)]) (caps_cons rfl (plains_nmV ps) (caps_cons rfl rfl (caps_cons rfl rfl rfl))) (by decide) ?_
    refine compL_all (fun b => sf [sgn b]) (fun b => .tup [sf [sgn b], stt (W k (pt ps u) ++ codK k b)]) (fun σ => ∃ x, σ = [x, some (vN ps), some (iv u), some (iv k)]) [true, false] _ ?_ ⟨none, rfl⟩
    rintro b hb σ ⟨x, rfl⟩
    refine ⟨[some (sf [sgn b]), some (vN ps), some (iv u), some (iv k)], rfl, ⟨_, rfl⟩, rfl, ?_, rfl⟩
    have e1 : ev K2 (.idx 194044194052 (.var 194044194049 1) (.var 194050194051 2)) false [some (sf [sgn b]), some (vN ps), some (iv u), some (iv k)] = some (stt (W 9 (pt ps u))) := by
      rw [ev_idx (ev_var (v := vN ps) rfl) (ev_var (v := iv u) rfl)]
      show atV (ps.map fun p => stt (W 9 p)) (u : Int) = _
      exact atV_map (by lia) (pt_some T.len hu)
    have hl9 := W9_len (pt ps u)
    have e2 : ev K2 (.bin 194044194059 .Add (.idx 194044194052 (.var 194044194049 1) (.var 194050194051 2)) (.var 194055194059 0)) false [some (sf [sgn b]), some (vN ps), some (iv u), some (iv k)] = some (sf (W 9 (pt ps u) ++ [sgn b])) := by
      rw [evE_bin, e1]
      show binV .Add (stt (W 9 (pt ps u))) (sf [sgn b]) = _
      rw [add_str (by show _ + 1 ≤ _; lia)]; rfl
    have hsg : Sg (W 9 (pt ps u) ++ [sgn b]) := by
      intro d hd
      rcases List.mem_append.mp hd with hd | hd
      · exact W9_sg _ d hd
      · rw [List.mem_singleton.mp hd]; cases b <;> simp [sgn]
    have h38 : 38 ∈ W 9 (pt ps u) ++ [sgn b] := List.mem_append_left _ (List.mem_append_left _ (List.mem_singleton.mpr rfl))
    have hwr := written_K2 k hk false (W 9 (pt ps u) ++ [sgn b]) h38 hsg (by rw [List.length_append]; show _ + 1 ≤ _; lia)
    rw [wrK_lead hk] at hwr
    have e3 : ev K2 (.gcall 194024194060 194024194036 "_law_written" (.cons (.var 194037194042 3) (.cons (.bin 194044194059 .Add (.idx 194044194052 (.var 194044194049 1) (.var 194050194051 2)) (.var 194055194059 0)) .nil))) false [some (sf [sgn b]), some (vN ps), some (iv u), some (iv k)] = some (stt (W k (pt ps u) ++ codK k b)) := by
      refine ev_gcall (vs := [iv k, sf (W 9 (pt ps u) ++ [sgn b])]) ?_ hwr rfl rfl
      rw [evL_cons, ev_var (v := iv k) rfl, evL_cons, e2, evL_nil]; rfl
    rw [evE_tup, evL_cons, ev_var (v := sf [sgn b]) rfl, evL_cons, e3, evL_nil]
    rfl
  obtain ⟨τ, hτ, e4⟩ := forL_gen (put := putT 13 (.t1 195012195013 9)) (body := exL K2 wvBody) (els := exL K2 .nil) iv
    (fun σ => ∃ x7 x9 x10 x11 x12, σ = wSto k ps sd u x7 x9 x10 x11 x12) rng5 (wSto k ps sd u x7 x9 x10 x11 x12) (by
      rintro v hv σ ⟨x7, x9, x10, x11, x12, rfl⟩
      obtain ⟨y7, y10, y11, y12, e⟩ := wv_body hk T hu (rng5_lt v hv) x7 x10 x11 x12
      exact ⟨_, _, rfl, e, _, _, _, _, _, rfl⟩) ⟨_, _, _, _, _, rfl⟩
  obtain ⟨y7, y9, y10, y11, y12, rfl⟩ := hτ
  refine ⟨some (stt (W k (pt ps u) ++ [61])), y7, some (ldV k (pt ps u)), y9, y10, y11, y12, s1.trans (s2.trans (s3.trans ((exL_next (xs := .nil) ?_).trans rfl)))⟩
  rw [exS_forI (vs := rng5.map iv) (h := rfl) (hn := rfl)]
  exact e4

theorem mul_tw : Txt.mul (St8 (D3 ++ amp5)) 2 = St8 tw5 := by decide +kernel
theorem ways_K3 (hk : k < 5) (T : TreeOK ps sd) : K3.F "_law_ways_are_told" [iv k, vN ps, vW k ps, vS sd] = some (.bool true) := by
  have hwr := written_K2 k hk true [38] (by decide) (by intro d hd; left; simpa using hd) (by decide)
  rw [wrK_amp hk, ampK_lt hk] at hwr
  have s1 : exL K2 b_law_ways_are_told [some (iv k), some (vN ps), some (vW k ps), some (vS sd), none, none, none, none, none, none, none, none, none] = exL K2 (tln 1 b_law_ways_are_told) [some (iv k), some (vN ps), some (vW k ps), some (vS sd), some (sf tw5), none, none, none, none, none, none, none, none] := by
    refine exL_asg (v := sf tw5) ?_ rfl
    have e1 : ev K2 (.gcall 189021189045 189021189033 "_law_written" (.cons (.var 189034189039 0) (.cons (.cstr 189041189044 "&") .nil))) false [some (iv k), some (vN ps), some (vW k ps), some (vS sd), none, none, none, none, none, none, none, none, none] = some (stt amp5) := by
      refine ev_gcall (vs := [iv k, stt [38]]) ?_ hwr rfl rfl
      show some [iv k, V.str true "&"] = _
      rw [show ("&" : Str) = St8 [38] by decide +kernel]
    have e2 : ev K2 (.bin 189013189045 .Add (.cstr 189013189018 "...") (.gcall 189021189045 189021189033 "_law_written" (.cons (.var 189034189039 0) (.cons (.cstr 189041189044 "&") .nil)))) false [some (iv k), some (vN ps), some (vW k ps), some (vS sd), none, none, none, none, none, none, none, none, none] = some (stt (D3 ++ amp5)) := by
      rw [evE_bin, e1]
      show binV .Add (.str true "...") (stt amp5) = _
      rw [dots_eq, add_str (by decide)]; rfl
    rw [evE_bin, e2]
    show some (V.str false (Txt.mul (St8 (D3 ++ amp5)) 2)) = _
    rw [mul_tw]
  obtain ⟨τ, hτ, e4⟩ := forL_gen (put := putT 13 (.t1 190008190009 5)) (body := exL K2 wyBody) (els := exL K2 .nil) iv
    (fun σ => ∃ x5 x6 x7 x8 x9 x10 x11 x12, σ = [some (iv k), some (vN ps), some (vW k ps), some (vS sd), some (sf tw5), x5, x6, x7, x8, x9, x10, x11, x12]) rng5 [some (iv k), some (vN ps), some (vW k ps), some (vS sd), some (sf tw5), none, none, none, none, none, none, none, none] (by
      rintro u hu σ ⟨x5, x6, x7, x8, x9, x10, x11, x12, rfl⟩
      obtain ⟨y6, y7, y8, y9, y10, y11, y12, e⟩ := wy_body hk T (rng5_lt u hu) x6 x7 x8 x9 x10 x11 x12
      exact ⟨_, _, rfl, e, _, _, _, _, _, _, _, _, rfl⟩) ⟨_, _, _, _, _, _, _, _, rfl⟩
  refine more_at (tabF_at (L := L3) rfl rfl (runF_of (σ := τ) ?_))
  show exL K2 b_law_ways_are_told [some (iv k), some (vN ps), some (vW k ps), some (vS sd), none, none, none, none, none, none, none, none, none] = _
  rw [s1]
  refine (exL_next (σ' := τ) ?_).trans rfl
  rw [exS_forI (vs := rng5.map iv) (h := rfl) (hn := rfl)]
  exact e4
end
end Mine

namespace Mine
open PySem PySem.W PySem.Calls PyProof.Rows PySem.Builtin PySem.Builtin.Str PySem.StrLaws

/-! `_law_row_is_told`, as plain lists -/
noncomputable def insL (x : List Nat) : List (List Nat) → List (List Nat)
  | [] => [x]
  | y :: ys => if PySem.Spec.ltCps x y then x :: y :: ys else y :: insL x ys
noncomputable def sortL (xs : List (List Nat)) : List (List Nat) := xs.foldl (fun a x => insL x a) []
theorem insStr_st (x : List Nat) : ∀ ys : List (List Nat), insStr (St8 x) (ys.map fun y => St8 y) = (insL x ys).map fun y => St8 y
  | [] => rfl
  | y :: ys => by
    show (if PySem.Spec.ltCps x y then St8 x :: St8 y :: ys.map (fun y => St8 y) else St8 y :: insStr (St8 x) (ys.map fun y => St8 y)) = _
    rw [insStr_st x ys]
    show _ = (if PySem.Spec.ltCps x y then x :: y :: ys else y :: insL x ys).map fun y => St8 y
    split <;> rfl
theorem sortStr_st (xs : List (List Nat)) : sortStr (xs.map fun y => St8 y) = (sortL xs).map fun y => St8 y := by
  have : ∀ (xs a : List (List Nat)), (xs.map fun y => St8 y).foldl (fun a x => insStr x a) (a.map fun y => St8 y) = (xs.foldl (fun a x => insL x a) a).map fun y => St8 y := by
    intro xs
    induction xs with
    | nil => intro a; rfl
    | cons x xs ih =>
      intro a
      rw [List.map_cons, List.foldl_cons, List.foldl_cons, insStr_st]
      exact ih _
  exact this xs []
theorem strsOf_stt : ∀ xs : List (List Nat), strsOf (xs.map stt) = some (xs.map fun y => St8 y)
  | [] => rfl
  | x :: xs => by
    show (strsOf (xs.map stt)).map _ = _
    rw [strsOf_stt xs]; rfl
theorem allFl_stt : ∀ xs : List (List Nat), allFl (xs.map stt) = true
  | [] => rfl
  | x :: xs => by
    show (true && allFl (xs.map stt)) = true
    rw [allFl_stt xs]; rfl
theorem bi_sorted (xs : List (List Nat)) (h : xs.length < 64) : biV "sorted" [.lst (xs.map stt)] = some (.lst ((sortL xs).map stt)) := by
  show (match strsOf (xs.map stt) with | some (as : List Str) => if as.length < 64 then some (V.lst ((sortStr as).map (.str (allFl (xs.map stt))))) else none | _ => none) = _
  rw [strsOf_stt, allFl_stt]
  show (if (xs.map fun y => St8 y).length < 64 then some (V.lst ((sortStr (xs.map fun y => St8 y)).map (.str true))) else none) = _
  rw [List.length_map, if_pos h, sortStr_st, List.map_map]; rfl

noncomputable def ixN : List Nat → Nat → Option Nat
  | [], _ => none
  | a :: as, x => if a = x then some 0 else (ixN as x).map (· + 1)
theorem int_beq (a b : Nat) : ((a : Int) == (b : Int)) = decide (a = b) := by
  rw [Bool.eq_iff_iff, beq_iff_eq, decide_eq_true_eq]; lia
theorem inL_iv (x : Nat) : ∀ as : List Nat, inL (as.map iv) (iv x) = some (ixN as x).isSome
  | [] => rfl
  | a :: as => by
    show (match some ((a : Int) == (x : Int)), inL (as.map iv) (iv x) with | some p, some q => some (p || q) | _, _ => none) = _
    rw [inL_iv x as, int_beq]
    show some (decide (a = x) || (ixN as x).isSome) = some (if a = x then some 0 else (ixN as x).map (· + 1)).isSome
    by_cases h : a = x
    · rw [if_pos h, decide_eq_true h]; rfl
    · rw [if_neg h, decide_eq_false h, Bool.false_or, Option.isSome_map]
theorem idxL_iv (x : Nat) : ∀ as : List Nat, idxL (as.map iv) (iv x) = ixN as x
  | [] => rfl
  | a :: as => by
    show (match some ((a : Int) == (x : Int)) with | some true => some 0 | some false => (idxL (as.map iv) (iv x)).map (· + 1) | none => none) = _
    rw [idxL_iv x as, int_beq]
    show _ = (if a = x then some 0 else (ixN as x).map (· + 1))
    by_cases h : a = x
    · rw [if_pos h, decide_eq_true h]
    · rw [if_neg h, decide_eq_false h]
theorem meth_index {as : List Nat} {x i : Nat} (hl : as.length ≤ 100000) (h : ixN as x = some i) : methV "index" (.lst (as.map iv)) [iv x] = some (iv i) := by
  show (if ((as.map iv).length ≤ lim && (inL (as.map iv) (iv x)).isSome) = true then (match idxL (as.map iv) (iv x) with | some j => some (V.int (j : Nat)) | none => none) else none) = _
  rw [inL_iv, idxL_iv, h, decide_eq_true (show (as.map iv).length ≤ lim by rw [List.length_map]; exact hl)]
  rfl
theorem ixN_lt {x : Nat} : ∀ {as : List Nat} {i : Nat}, ixN as x = some i → i < as.length
  | [], _, h => by cases h
  | a :: as, i, h => by
    have h' : (if a = x then some 0 else (ixN as x).map (· + 1)) = some i := h
    rw [List.length_cons]
    by_cases hc : a = x
    · rw [if_pos hc] at h'; cases h'; lia
    · rw [if_neg hc] at h'
      obtain ⟨j, hj, rfl⟩ := Option.map_eq_some_iff.mp h'
      have := ixN_lt hj
      lia

noncomputable def rowP (ls : List (List Nat)) : List (List Nat) := sortL (ls ++ ls.map fun l => l ++ [61])
noncomputable def opP (R ls : List (List Nat)) : List Nat := ls.map fun l => (ixL R l).getD 0
noncomputable def clP (R ls : List (List Nat)) : List Nat := ls.map fun l => (ixL R (l ++ [61])).getD 0
noncomputable def heldP (sd : Nat → Nat → List Nat) (ins : List (List Nat)) (u : Nat) : List Nat := rng5.filter fun v => (ixL ins (sd u v)).isSome
noncomputable def aheadP (cl : List Nat) (u : Nat) : List Nat := rng5.filter fun v => decide (cl.getD v 0 < cl.getD u 0)
noncomputable def dueP (rs : List Nat) (sd : Nat → Nat → List Nat) (ins : List (List Nat)) (u : Nat) : List Nat :=
  if ins.length = 1 then rng5.filter fun v => decide (rs.getD v 0 < rs.getD u 0)
  else rng5.filter fun v => (ixN (heldP sd ins u) v).isSome || (decide (sd v u = []) && decide (rs.getD u 0 < rs.getD v 0))
noncomputable abbrev rng10 : List Nat := [0, 1, 2, 3, 4, 5, 6, 7, 8, 9]
noncomputable def unitP (op : List Nat) (spot : Nat) (hid : List Nat) (p : Nat) : List Nat := (if (ixN op p).isSome then [40] else [41]) ++ (if p = spot then hid else [])
noncomputable def mateP (op cl : List Nat) (p : Nat) : Option Nat := match ixN op p with
  | some i => some (cl.getD i 0)
  | none => (ixN cl p).map fun i => op.getD i 0
noncomputable def matesP (op cl : List Nat) : List Nat := rng10.map fun p => (mateP op cl p).getD 0
noncomputable def wholeP (ms : List Nat) (place size : Nat) : Bool := match (ms.drop place).take size with
  | [] => false
  | a :: as => decide (place ≤ minN a as) && decide (maxN a as < place + size)
noncomputable def winP (op : List Nat) (spot : Nat) (hid : List Nat) (place size : Nat) : List Nat := (((rng10.map (unitP op spot hid)).drop place).take size).flatten

structure RowOK (ls : List (List Nat)) (rs : List Nat) (sd : Nat → Nat → List Nat) (ins : List (List Nat)) : Prop where
  l5 : ls.length = 5
  r5 : rs.length = 5
  short : ∀ l ∈ ls, l.length ≤ 200
  inl : ins.length ≤ 10
  opn : ∀ l ∈ ls, (ixL (rowP ls) l).isSome = true
  cls : ∀ l ∈ ls, (ixL (rowP ls) (l ++ [61])).isSome = true
  held : ∀ u, u < 5 → (clP (rowP ls) ls).getD u 0 = (opP (rowP ls) ls).getD u 0 + (2 * (heldP sd ins u).length + 1)
  due : ∀ u, u < 5 → aheadP (clP (rowP ls) ls) u = dueP rs sd ins u
  mate : ∀ p, p < 10 → (mateP (opP (rowP ls) ls) (clP (rowP ls) ls) p).isSome = true
end Mine

namespace Mine
open PySem PySem.W PySem.Calls PyProof.Rows PySem.Builtin PySem.Builtin.Str PySem.StrLaws

theorem indexOf_K3 {ls : List (List Nat)} {l : List Nat} {i : Nat} (h : ixL ls l = some i) : K3.F "indexOf" [.lst (ls.map stt), stt l] = some (iv i) := up3 (by decide +kernel) (up2 (by decide +kernel) (indexOf_K1 h))
theorem sub_K3 (a b : Int) : K3.F "sub" [.int a, .int b] = some (.int (a - b)) := up3 (by decide +kernel) (up2 (by decide +kernel) (sub_K1 a b))
theorem plain_stts (ls : List (List Nat)) : (V.lst (ls.map stt)).plain = true := plains_map stt (fun _ => rfl) ls
theorem some_getD {o : Option Nat} (h : o.isSome = true) : o = some (o.getD 0) := by cases o with | none => cases h | some a => rfl
theorem getD_at {rs : List Nat} {n : Nat} (h : rs.length = n) {u : Nat} (hu : u < n) : rs[u]? = some (rs.getD u 0) := by
  rw [List.getD_eq_getElem?_getD, List.getElem?_eq_getElem (by lia)]; rfl
theorem iv_at {K : Kx} {p p1 p2 i j : Nat} {σ : Sto} {rs : List Nat} {n u : Nat} (hr : σ.at i = some (.lst (rs.map iv))) (hu : σ.at j = some (iv u)) (hn : rs.length = n) (h : u < n) (hb : n ≤ 100) : ev K (.idx p (.var p1 i) (.var p2 j)) false σ = some (iv (rs.getD u 0)) := by
  rw [ev_idx (ev_var hr) (ev_var hu)]
  show atV (rs.map iv) (u : Int) = _
  exact atV_map (by lia) (getD_at hn h)

section
variable {ls : List (List Nat)} {rs : List Nat} {sd : Nat → Nat → List Nat} {ins : List (List Nat)} {spot : Nat} {hid : List Nat}

noncomputable abbrev rHead (ls : List (List Nat)) (rs : List Nat) (sd : Nat → Nat → List Nat) (ins : List (List Nat)) (spot : Nat) (hid : List Nat) : Sto :=
  [some (.lst (ls.map stt)), some (.lst (rs.map iv)), some (vS sd), some (.lst (ins.map stt)), some (iv spot), some (stt hid)]
noncomputable abbrev rSto (ls : List (List Nat)) (rs : List Nat) (sd : Nat → Nat → List Nat) (ins : List (List Nat)) (spot : Nat) (hid : List Nat) (x9 x10 x11 x12 x13 x14 x15 x16 x17 : Option V) : Sto :=
  [some (.lst (ls.map stt)), some (.lst (rs.map iv)), some (vS sd), some (.lst (ins.map stt)), some (iv spot), some (stt hid), some (.lst ((rowP ls).map stt)), some (.lst ((opP (rowP ls) ls).map iv)), some (.lst ((clP (rowP ls) ls).map iv)), x9, x10, x11, x12, x13, x14, x15, x16, x17]

theorem row_head (T : RowOK ls rs sd ins) : exL K3 b_law_row_is_told (rHead ls rs sd ins spot hid ++ List.replicate 12 none) = exL K3 (tln 3 b_law_row_is_told) (rSto ls rs sd ins spot hid none none none none none none none none none) := by
  have s1 : exL K3 b_law_row_is_told (rHead ls rs sd ins spot hid ++ List.replicate 12 none) = exL K3 (tln 1 b_law_row_is_told) (rHead ls rs sd ins spot hid ++ some (.lst ((rowP ls).map stt)) :: List.replicate 11 none) := by
    refine exL_asg (v := .lst ((rowP ls).map stt)) ?_ ?_
    · have e1 : ev K3 (match b_law_row_is_told with | .cons (.asg _ _ _ (.bcall _ _ _ (.cons (.bin _ _ _ x) _))) _ => x | _ => xD) false (rHead ls rs sd ins spot hid ++ List.replicate 12 none) = some (.lst ((ls.map fun l => l ++ [61]).map stt)) := by
        refine ev_comp (vs := ls.map stt) (ws := (ls.map fun l => l ++ [61]).map stt) (cs := []) ?_ rfl (by rw [List.length_map, T.l5]; decide) ?_
        · show (if plains (ls.map stt) = true then some (ls.map stt) else none) = _
          rw [if_pos (show plains (ls.map stt) = true from plain_stts ls)]
        · rw [List.map_map]
          refine compL_all stt (fun l => stt (l ++ [61])) (fun σ => ∃ x, σ = [x]) ls _ ?_ ⟨none, rfl⟩
          rintro l hl σ ⟨x, rfl⟩
          refine ⟨[some (stt l)], rfl, ⟨_, rfl⟩, rfl, ?_, rfl⟩
          have := T.short l hl
          rw [evE_bin]
          show binV .Add (stt l) (.str true "=") = _
          rw [eq_lit, add_str (by show _ + 1 ≤ _; lia)]; rfl
      have e2 : ev K3 (match b_law_row_is_told with | .cons (.asg _ _ _ (.bcall _ _ _ (.cons x _))) _ => x | _ => xD) false (rHead ls rs sd ins spot hid ++ List.replicate 12 none) = some (.lst ((ls ++ ls.map fun l => l ++ [61]).map stt)) := by
        show ev K3 (.bin _ .Add (.var _ 0) (match b_law_row_is_told with | .cons (.asg _ _ _ (.bcall _ _ _ (.cons (.bin _ _ _ x) _))) _ => x | _ => xD)) false _ = _
        rw [evE_bin, ev_var (v := .lst (ls.map stt)) rfl, e1]
        show (if (ls.map stt).length + ((ls.map fun l => l ++ [61]).map stt).length ≤ lim then some (V.lst (ls.map stt ++ (ls.map fun l => l ++ [61]).map stt)) else none) = _
        rw [if_pos (by rw [List.length_map, List.length_map, List.length_map, T.l5]; decide), List.map_append]
      show ev K3 (.bcall _ _ "sorted" (.cons (match b_law_row_is_told with | .cons (.asg _ _ _ (.bcall _ _ _ (.cons x _))) _ => x | _ => xD) .nil)) false _ = _
      rw [evE_bcall, evL_cons, e2, evL_nil]
      exact bi_sorted _ (by rw [List.length_append, List.length_map, T.l5]; decide)
    · unfold putV
      rw [if_pos (by rw [plain_stts]; rfl)]; rfl
  have s2 : exL K3 (tln 1 b_law_row_is_told) (rHead ls rs sd ins spot hid ++ some (.lst ((rowP ls).map stt)) :: List.replicate 11 none) = exL K3 (tln 2 b_law_row_is_told) (rHead ls rs sd ins spot hid ++ some (.lst ((rowP ls).map stt)) :: some (.lst ((opP (rowP ls) ls).map iv)) :: List.replicate 10 none) := by
    refine exL_asg (v := .lst ((opP (rowP ls) ls).map iv)) ?_ ?_
    · refine ev_comp (vs := ls.map stt) (ws := (opP (rowP ls) ls).map iv) (cs := [some (.lst ((rowP ls).map stt))]) ?_ (caps_cons rfl (plain_stts _) rfl) (by rw [List.length_map, T.l5]; decide) ?_
      · show (if plains (ls.map stt) = true then some (ls.map stt) else none) = _
        rw [if_pos (show plains (ls.map stt) = true from plain_stts ls)]
      · unfold opP
        rw [List.map_map]
        refine compL_all stt (fun l => iv ((ixL (rowP ls) l).getD 0)) (fun σ => ∃ x, σ = [x, some (.lst ((rowP ls).map stt))]) ls _ ?_ ⟨none, rfl⟩
        rintro l hl σ ⟨x, rfl⟩
        refine ⟨[some (stt l), some (.lst ((rowP ls).map stt))], rfl, ⟨_, rfl⟩, rfl, ?_, rfl⟩
        exact ev_gcall (vs := [.lst ((rowP ls).map stt), stt l]) rfl (indexOf_K3 (some_getD (T.opn l hl))) (by
          show (plains ((rowP ls).map stt) && _) = true
          rw [show plains ((rowP ls).map stt) = true from plain_stts _]; rfl) rfl
    · unfold putV
      rw [if_pos (by rw [plain_ivs]; rfl)]; rfl
  have s3 : exL K3 (tln 2 b_law_row_is_told) (rHead ls rs sd ins spot hid ++ some (.lst ((rowP ls).map stt)) :: some (.lst ((opP (rowP ls) ls).map iv)) :: List.replicate 10 none) = exL K3 (tln 3 b_law_row_is_told) (rSto ls rs sd ins spot hid none none none none none none none none none) := by
    refine exL_asg (v := .lst ((clP (rowP ls) ls).map iv)) ?_ ?_
    · refine ev_comp (vs := ls.map stt) (ws := (clP (rowP ls) ls).map iv) (cs := [some (.lst ((rowP ls).map stt))]) ?_ (caps_cons rfl (plain_stts _) rfl) (by rw [List.length_map, T.l5]; decide) ?_
      · show (if plains (ls.map stt) = true then some (ls.map stt) else none) = _
        rw [if_pos (show plains (ls.map stt) = true from plain_stts ls)]
      · unfold clP
        rw [List.map_map]
        refine compL_all stt (fun l => iv ((ixL (rowP ls) (l ++ [61])).getD 0)) (fun σ => ∃ x, σ = [x, some (.lst ((rowP ls).map stt))]) ls _ ?_ ⟨none, rfl⟩
        rintro l hl σ ⟨x, rfl⟩
        have := T.short l hl
        refine ⟨[some (stt l), some (.lst ((rowP ls).map stt))], rfl, ⟨_, rfl⟩, rfl, ?_, rfl⟩
        refine ev_gcall (vs := [.lst ((rowP ls).map stt), stt (l ++ [61])]) ?_ (indexOf_K3 (some_getD (T.cls l hl))) (by
          show (plains ((rowP ls).map stt) && _) = true
          rw [show plains ((rowP ls).map stt) = true from plain_stts _]; rfl) rfl
        have e : ev K3 (.bin 210027210037 .Add (.var 210027210031 0) (.cstr 210034210037 "=")) false [some (stt l), some (.lst ((rowP ls).map stt))] = some (stt (l ++ [61])) := by
          rw [evE_bin]
          show binV .Add (stt l) (.str true "=") = _
          rw [eq_lit, add_str (by show _ + 1 ≤ _; lia)]; rfl
        rw [evL_cons, ev_var (v := .lst ((rowP ls).map stt)) rfl, evL_cons, e, evL_nil]; rfl
    · unfold putV
      rw [if_pos (by rw [plain_ivs]; rfl)]; rfl
  exact s1.trans (s2.trans s3)
end
end Mine

namespace Mine
open PySem PySem.W PySem.Calls PyProof.Rows PySem.Builtin PySem.Builtin.Str PySem.StrLaws

theorem eqsL_iv : ∀ as : List Nat, eqsL (as.map iv) (as.map iv) = some true
  | [] => rfl
  | a :: as => by
    show (match some ((a : Int) == (a : Int)), eqsL (as.map iv) (as.map iv) with | some p, some q => some (p && q) | _, _ => none) = _
    rw [eqsL_iv as, int_beq, decide_eq_true rfl]; rfl
noncomputable def ruFor : S := match tln 3 b_law_row_is_told with | .cons x _ => x | _ => sD
noncomputable def ruBody : SL := match ruFor with | .forr _ _ _ b _ => b | _ => .nil

section
variable {ls : List (List Nat)} {rs : List Nat} {sd : Nat → Nat → List Nat} {ins : List (List Nat)} {spot : Nat} {hid : List Nat}

theorem opP_len (R : List (List Nat)) (h : ls.length = 5) : (opP R ls).length = 5 := by unfold opP; rw [List.length_map, h]
theorem clP_len (R : List (List Nat)) (h : ls.length = 5) : (clP R ls).length = 5 := by unfold clP; rw [List.length_map, h]
theorem filter_len (f : Nat → Bool) : (rng5.filter f).length ≤ 5 := List.length_filter_le f rng5

theorem ru_body (T : RowOK ls rs sd ins) {u : Nat} (hu : u < 5) (x10 x11 x12 x13 x14 x15 x16 x17 : Option V) :
    ∃ y10 y11 y12, exL K3 ruBody (rSto ls rs sd ins spot hid (some (iv u)) x10 x11 x12 x13 x14 x15 x16 x17) = some (.next, rSto ls rs sd ins spot hid (some (iv u)) y10 y11 y12 x13 x14 x15 x16 x17) := by
  have lo := opP_len (rowP ls) T.l5
  have lc := clP_len (rowP ls) T.l5
  have hheld := T.held u hu
  have hdue := T.due u hu
  have s1 : exL K3 ruBody (rSto ls rs sd ins spot hid (some (iv u)) x10 x11 x12 x13 x14 x15 x16 x17) = exL K3 (tln 1 ruBody) (rSto ls rs sd ins spot hid (some (iv u)) (some (.lst ((heldP sd ins u).map iv))) x11 x12 x13 x14 x15 x16 x17) := by
    refine exL_asg (v := .lst ((heldP sd ins u).map iv)) ?_ ?_
    · refine ev_comp (evI_rng5 _ _ _ _ _) (cs := [some (.lst (ins.map stt)), some (vS sd), some (iv u)]) (caps_cons rfl (plain_stts ins) (caps_cons rfl (vS_plain sd) (caps_cons rfl rfl rfl))) (by decide) ?_
      refine compL_gen iv (fun v => (ixL ins (sd u v)).isSome) iv (fun σ => ∃ x, σ = [x, some (.lst (ins.map stt)), some (vS sd), some (iv u)]) rng5 _ ?_ ⟨none, rfl⟩
      rintro v hv σ ⟨x, rfl⟩
      refine ⟨[some (iv v), some (.lst (ins.map stt)), some (vS sd), some (iv u)], rfl, ⟨_, rfl⟩, ?_, fun _ => ⟨rfl, rfl⟩⟩
      rw [evC_some, evE_cmp, side_at (sd := sd) (u := u) (v := v) rfl rfl rfl hu (rng5_lt v hv)]
      show unB (Option.map V.bool (inL (ins.map stt) (stt (sd u v)))) = _
      rw [inL_stt]; rfl
    · unfold putV
      rw [if_pos (by rw [plain_ivs]; rfl)]; rfl
  have s2 : exL K3 (tln 1 ruBody) (rSto ls rs sd ins spot hid (some (iv u)) (some (.lst ((heldP sd ins u).map iv))) x11 x12 x13 x14 x15 x16 x17) = exL K3 (tln 2 ruBody) (rSto ls rs sd ins spot hid (some (iv u)) (some (.lst ((heldP sd ins u).map iv))) x11 x12 x13 x14 x15 x16 x17) := by
    refine exL_iffF ?_ rfl
    have e1 : ev K3 (.gcall 213011213035 213011213014 "sub" (.cons (.idx 213015213024 (.var 213015213021 8) (.var 213022213023 9)) (.cons (.idx 213026213034 (.var 213026213031 7) (.var 213032213033 9)) .nil))) false (rSto ls rs sd ins spot hid (some (iv u)) (some (.lst ((heldP sd ins u).map iv))) x11 x12 x13 x14 x15 x16 x17) = some (.int ((((clP (rowP ls) ls).getD u 0 : Nat) : Int) - ((opP (rowP ls) ls).getD u 0 : Nat))) := by
      refine ev_gcall (vs := [iv ((clP (rowP ls) ls).getD u 0), iv ((opP (rowP ls) ls).getD u 0)]) ?_ (sub_K3 _ _) rfl rfl
      rw [evL_cons, iv_at (rs := clP (rowP ls) ls) (u := u) rfl rfl lc hu (by decide), evL_cons, iv_at (rs := opP (rowP ls) ls) (u := u) rfl rfl lo hu (by decide), evL_nil]; rfl
    have hl := filter_len fun v => (ixL ins (sd u v)).isSome
    have e2 : ev K3 (.bcall 213043213052 213043213046 "len" (.cons (.var 213047213051 10) .nil)) false (rSto ls rs sd ins spot hid (some (iv u)) (some (.lst ((heldP sd ins u).map iv))) x11 x12 x13 x14 x15 x16 x17) = some (iv (heldP sd ins u).length) := by
      show (if ((heldP sd ins u).map iv).length ≤ lim then some (V.int ((heldP sd ins u).map iv).length) else none) = _
      rw [List.length_map, if_pos (show (heldP sd ins u).length ≤ lim from (by show _ ≤ 100000; unfold heldP; lia))]
    have e3 : ev K3 (.bin 213039213056 .Add (.bin 213039213052 .Mult (.cint 213039213040 2) (.bcall 213043213052 213043213046 "len" (.cons (.var 213047213051 10) .nil))) (.cint 213055213056 1)) false (rSto ls rs sd ins spot hid (some (iv u)) (some (.lst ((heldP sd ins u).map iv))) x11 x12 x13 x14 x15 x16 x17) = some (.int (2 * ((heldP sd ins u).length : Int) + 1)) := by
      have e3a : ev K3 (.bin 213039213052 .Mult (.cint 213039213040 2) (.bcall 213043213052 213043213046 "len" (.cons (.var 213047213051 10) .nil))) false (rSto ls rs sd ins spot hid (some (iv u)) (some (.lst ((heldP sd ins u).map iv))) x11 x12 x13 x14 x15 x16 x17) = some (.int (2 * ((heldP sd ins u).length : Int))) := by
        rw [evE_bin, e2]
        show (if (smallI 2 && smallI ((heldP sd ins u).length : Int)) = true then some (V.int (2 * ((heldP sd ins u).length : Int))) else none) = _
        rw [small_nat (k := (heldP sd ins u).length) (by unfold heldP; lia)]
        rfl
      rw [evE_bin, e3a]
      rfl
    rw [evT_eq]
    rw [evE_cmp, e1, e3]
    show some (!((((clP (rowP ls) ls).getD u 0 : Nat) : Int) - ((opP (rowP ls) ls).getD u 0 : Nat) == (2 * ((heldP sd ins u).length : Int) + 1))) = _
    have : ((((clP (rowP ls) ls).getD u 0 : Nat) : Int) - ((opP (rowP ls) ls).getD u 0 : Nat) == (2 * ((heldP sd ins u).length : Int) + 1)) = true := by
      rw [beq_iff_eq]; lia
    rw [this]; rfl
  have s3 : exL K3 (tln 2 ruBody) (rSto ls rs sd ins spot hid (some (iv u)) (some (.lst ((heldP sd ins u).map iv))) x11 x12 x13 x14 x15 x16 x17) = exL K3 (tln 3 ruBody) (rSto ls rs sd ins spot hid (some (iv u)) (some (.lst ((heldP sd ins u).map iv))) (some (.lst ((aheadP (clP (rowP ls) ls) u).map iv))) x12 x13 x14 x15 x16 x17) := by
    refine exL_asg (v := .lst ((aheadP (clP (rowP ls) ls) u).map iv)) ?_ ?_
    · refine ev_comp (evI_rng5 _ _ _ _ _) (cs := [some (.lst ((clP (rowP ls) ls).map iv)), some (iv u)]) (caps_cons rfl (plain_ivs _) (caps_cons rfl rfl rfl)) (by decide) ?_
      refine compL_gen iv (fun v => decide ((clP (rowP ls) ls).getD v 0 < (clP (rowP ls) ls).getD u 0)) iv (fun σ => ∃ x, σ = [x, some (.lst ((clP (rowP ls) ls).map iv)), some (iv u)]) rng5 _ ?_ ⟨none, rfl⟩
      rintro v hv σ ⟨x, rfl⟩
      refine ⟨[some (iv v), some (.lst ((clP (rowP ls) ls).map iv)), some (iv u)], rfl, ⟨_, rfl⟩, ?_, fun _ => ⟨rfl, rfl⟩⟩
      rw [evC_some, evE_cmp, iv_at (rs := clP (rowP ls) ls) (u := v) rfl rfl lc (rng5_lt v hv) (by decide), iv_at (rs := clP (rowP ls) ls) (u := u) rfl rfl lc hu (by decide)]
      show some (decide (((clP (rowP ls) ls).getD v 0 : Int) < ((clP (rowP ls) ls).getD u 0 : Int))) = _
      simp only [Int.ofNat_lt]
    · unfold putV
      rw [if_pos (by rw [plain_ivs]; rfl)]; rfl
  have e4 : evT K3 (.cmp 216011216027 .Eq (.bcall 216011216022 216011216014 "len" (.cons (.var 216015216021 3) .nil)) (.cint 216026216027 1)) (rSto ls rs sd ins spot hid (some (iv u)) (some (.lst ((heldP sd ins u).map iv))) (some (.lst ((aheadP (clP (rowP ls) ls) u).map iv))) x12 x13 x14 x15 x16 x17) = some (decide (ins.length = 1)) := by
    have e2 : ev K3 (.bcall 216011216022 216011216014 "len" (.cons (.var 216015216021 3) .nil)) false (rSto ls rs sd ins spot hid (some (iv u)) (some (.lst ((heldP sd ins u).map iv))) (some (.lst ((aheadP (clP (rowP ls) ls) u).map iv))) x12 x13 x14 x15 x16 x17) = some (iv ins.length) := by
      show (if (ins.map stt).length ≤ lim then some (V.int (ins.map stt).length) else none) = _
      have := T.inl
      rw [List.length_map, if_pos (show ins.length ≤ lim from (by show _ ≤ 100000; lia))]
    rw [evT_eq]
    rw [evE_cmp, e2]
    show some ((ins.length : Int) == ((1 : Nat) : Int)) = _
    rw [int_beq]
  have s4 : exL K3 (tln 3 ruBody) (rSto ls rs sd ins spot hid (some (iv u)) (some (.lst ((heldP sd ins u).map iv))) (some (.lst ((aheadP (clP (rowP ls) ls) u).map iv))) x12 x13 x14 x15 x16 x17) = exL K3 (tln 4 ruBody) (rSto ls rs sd ins spot hid (some (iv u)) (some (.lst ((heldP sd ins u).map iv))) (some (.lst ((aheadP (clP (rowP ls) ls) u).map iv))) (some (.lst ((dueP rs sd ins u).map iv))) x13 x14 x15 x16 x17) := by
    by_cases h1 : ins.length = 1
    · replace e4 := e4.trans (congrArg some (decide_eq_true h1))
      have hd : dueP rs sd ins u = rng5.filter fun v => decide (rs.getD v 0 < rs.getD u 0) := if_pos h1
      refine exL_iffT e4 ((exL_asg (v := .lst ((dueP rs sd ins u).map iv)) ?_ ?_).trans rfl)
      · rw [hd]
        refine ev_comp (evI_rng5 _ _ _ _ _) (cs := [some (.lst (rs.map iv)), some (iv u)]) (caps_cons rfl (plain_ivs _) (caps_cons rfl rfl rfl)) (by decide) ?_
        refine compL_gen iv (fun v => decide (rs.getD v 0 < rs.getD u 0)) iv (fun σ => ∃ x, σ = [x, some (.lst (rs.map iv)), some (iv u)]) rng5 _ ?_ ⟨none, rfl⟩
        rintro v hv σ ⟨x, rfl⟩
        refine ⟨[some (iv v), some (.lst (rs.map iv)), some (iv u)], rfl, ⟨_, rfl⟩, ?_, fun _ => ⟨rfl, rfl⟩⟩
        rw [evC_some, evE_cmp, iv_at (rs := rs) (u := v) rfl rfl T.r5 (rng5_lt v hv) (by decide), iv_at (rs := rs) (u := u) rfl rfl T.r5 hu (by decide)]
        show some (decide ((rs.getD v 0 : Int) < (rs.getD u 0 : Int))) = _
        simp only [Int.ofNat_lt]
      · unfold putV
        rw [if_pos (by rw [plain_ivs]; rfl)]; rfl
    · replace e4 := e4.trans (congrArg some (decide_eq_false h1))
      have hd : dueP rs sd ins u = rng5.filter fun v => (ixN (heldP sd ins u) v).isSome || (decide (sd v u = []) && decide (rs.getD u 0 < rs.getD v 0)) := if_neg h1
      refine exL_iffF e4 ((exL_asg (v := .lst ((dueP rs sd ins u).map iv)) ?_ ?_).trans rfl)
      · rw [hd]
        refine ev_comp (evI_rng5 _ _ _ _ _) (cs := [some (.lst ((heldP sd ins u).map iv)), some (.lst (rs.map iv)), some (vS sd), some (iv u)]) (caps_cons rfl (plain_ivs _) (caps_cons rfl (plain_ivs _) (caps_cons rfl (vS_plain sd) (caps_cons rfl rfl rfl)))) (by decide) ?_
        refine compL_gen iv (fun v => (ixN (heldP sd ins u) v).isSome || (decide (sd v u = []) && decide (rs.getD u 0 < rs.getD v 0))) iv (fun σ => ∃ x, σ = [x, some (.lst ((heldP sd ins u).map iv)), some (.lst (rs.map iv)), some (vS sd), some (iv u)]) rng5 _ ?_ ⟨none, rfl⟩
        rintro v hv σ ⟨x, rfl⟩
        refine ⟨[some (iv v), some (.lst ((heldP sd ins u).map iv)), some (.lst (rs.map iv)), some (vS sd), some (iv u)], rfl, ⟨_, rfl⟩, ?_, fun _ => ⟨rfl, rfl⟩⟩
        have hv5 := rng5_lt v hv
        have g1 : unB (ev K3 (.cmp 219042219051 .In (.var 219042219043 0) (.var 219047219051 1)) true [some (iv v), some (.lst ((heldP sd ins u).map iv)), some (.lst (rs.map iv)), some (vS sd), some (iv u)]) = some (ixN (heldP sd ins u) v).isSome := by
          show unB (Option.map V.bool (inL ((heldP sd ins u).map iv) (iv v))) = _
          rw [inL_iv]; rfl
        have g2 : unB (ev K3 (.cmp 219056219073 .Eq (.idx 219056219067 (.idx 219056219064 (.var 219056219061 3) (.var 219062219063 0)) (.var 219065219066 4)) (.cstr 219071219073 "")) true [some (iv v), some (.lst ((heldP sd ins u).map iv)), some (.lst (rs.map iv)), some (vS sd), some (iv u)]) = some (decide (sd v u = [])) := by
          rw [evE_cmp, side_at (sd := sd) (u := v) (v := u) rfl rfl rfl hv5 hu]
          show some (St8 (sd v u) == ("" : Str)) = _
          rw [show ("" : Str) = St8 [] from rfl, st_beq]
        have g3 : unB (ev K3 (.cmp 219078219097 .Gt (.idx 219078219086 (.var 219078219083 2) (.var 219084219085 0)) (.idx 219089219097 (.var 219089219094 2) (.var 219095219096 4))) true [some (iv v), some (.lst ((heldP sd ins u).map iv)), some (.lst (rs.map iv)), some (vS sd), some (iv u)]) = some (decide (rs.getD u 0 < rs.getD v 0)) := by
          rw [evE_cmp, iv_at (rs := rs) (u := v) rfl rfl T.r5 hv5 (by decide), iv_at (rs := rs) (u := u) rfl rfl T.r5 hu (by decide)]
          show some (decide ((rs.getD u 0 : Int) < (rs.getD v 0 : Int))) = _
          simp only [Int.ofNat_lt]
        rw [evC_some, evE_boo, g1]
        cases (ixN (heldP sd ins u) v).isSome with
        | true => rfl
        | false =>
          show unB (Option.map V.bool (unB (ev K3 (.boo 219056219097 .And _ _) true _))) = _
          rw [evE_boo, g2]
          cases decide (sd v u = []) with
          | false => rfl
          | true =>
            show unB (Option.map V.bool (unB (Option.map V.bool (unB (ev K3 _ true _))))) = _
            rw [g3]; rfl
      · unfold putV
        rw [if_pos (by rw [plain_ivs]; rfl)]; rfl
  have s5 : exL K3 (tln 4 ruBody) (rSto ls rs sd ins spot hid (some (iv u)) (some (.lst ((heldP sd ins u).map iv))) (some (.lst ((aheadP (clP (rowP ls) ls) u).map iv))) (some (.lst ((dueP rs sd ins u).map iv))) x13 x14 x15 x16 x17) = some (.next, rSto ls rs sd ins spot hid (some (iv u)) (some (.lst ((heldP sd ins u).map iv))) (some (.lst ((aheadP (clP (rowP ls) ls) u).map iv))) (some (.lst ((dueP rs sd ins u).map iv))) x13 x14 x15 x16 x17) := by
    refine (exL_iffF (xs := .nil) ?_ rfl).trans rfl
    rw [hdue]
    show unB (Option.map V.bool (if ((dueP rs sd ins u).map iv).length == ((dueP rs sd ins u).map iv).length then (eqsL ((dueP rs sd ins u).map iv) ((dueP rs sd ins u).map iv)).map (!·) else some true)) = _
    rw [if_pos (beq_self_eq_true _), eqsL_iv]; rfl
  exact ⟨_, _, _, s1.trans (s2.trans (s3.trans (s4.trans s5)))⟩

theorem ru_loop (T : RowOK ls rs sd ins) : ∃ x9 x10 x11 x12, exL K3 (tln 3 b_law_row_is_told) (rSto ls rs sd ins spot hid none none none none none none none none none) = exL K3 (tln 4 b_law_row_is_told) (rSto ls rs sd ins spot hid x9 x10 x11 x12 none none none none none) := by
  obtain ⟨τ, hτ, e⟩ := forL_gen (put := putT 18 (.t1 211008211009 9)) (body := exL K3 ruBody) (els := exL K3 .nil) iv
    (fun σ => ∃ x9 x10 x11 x12, σ = rSto ls rs sd ins spot hid x9 x10 x11 x12 none none none none none) rng5 (rSto ls rs sd ins spot hid none none none none none none none none none) (by
      rintro u hu σ ⟨x9, x10, x11, x12, rfl⟩
      obtain ⟨y10, y11, y12, e⟩ := ru_body (spot := spot) (hid := hid) T (rng5_lt u hu) x10 x11 x12 none none none none none
      exact ⟨_, _, rfl, e, _, _, _, _, rfl⟩) ⟨_, _, _, _, rfl⟩
  obtain ⟨x9, x10, x11, x12, rfl⟩ := hτ
  refine ⟨x9, x10, x11, x12, exL_next ?_⟩
  rw [exS_forI (vs := rng5.map iv) (h := rfl) (hn := rfl)]
  exact e
end
end Mine

namespace Mine
open PySem PySem.W PySem.Calls PyProof.Rows PySem.Builtin PySem.Builtin.Str PySem.StrLaws

theorem evI_rng10 (K : Kx) (p q r : Nat) (σ : Sto) : evI K (.rng p q (.cint r 10)) σ = some (rng10.map iv) := rfl
theorem rng10_lt : ∀ x ∈ rng10, x < 10 := by decide
theorem join_flatten : ∀ ws : List (List Nat), Str.join "" (ws.map fun w => St8 w) = St8 ws.flatten
  | [] => rfl
  | [w] => by simp [Str.join]
  | w :: w' :: ws => by
    have ih := join_flatten (w' :: ws)
    show St8 w ++ ("" : Str) ++ Str.join "" ((w' :: ws).map fun w => St8 w) = _
    rw [ih, show ("" : Str) = St8 [] from rfl, st_app, st_app, List.append_nil]
    rfl
theorem meth_join (ws : List (List Nat)) (hl : ws.length ≤ 100) (hw : ∀ w ∈ ws, w.length ≤ 100) : methV "join" (.str true "") [.lst (ws.map stt)] = some (sf ws.flatten) := by
  have hsum := sum_le (n := 100) (ys := ws.map fun w => St8 w) (by
    intro y hy
    obtain ⟨w, hw', rfl⟩ := List.mem_map.mp hy
    rw [st_len]; exact hw w hw')
  show (match strsOf (ws.map stt) with | some (zs : List Str) => if (zs.map (fun z : Str => z.length)).sum + zs.length * Str.length "" ≤ lim then some (V.str false (Txt.join "" zs)) else none | none => none) = _
  rw [strsOf_stt]
  have h0 : Str.length "" = 0 := rfl
  have hlim : lim = 100000 := rfl
  rw [List.length_map] at hsum
  show (if ((ws.map fun w => St8 w).map (fun z : Str => z.length)).sum + (ws.map fun w => St8 w).length * Str.length "" ≤ lim then some (V.str false (Txt.join "" (ws.map fun w => St8 w))) else none) = _
  rw [if_pos (by rw [h0, hlim]; lia)]
  unfold Txt.join
  rw [glued_eq_join, join_flatten]

theorem clip_nat {n i : Nat} (h : i ≤ n) : clipAt n (i : Int) = i := by
  unfold clipAt
  rw [if_neg (Int.not_lt.mpr (Int.natCast_nonneg i)), Int.min_eq_left (Int.ofNat_le.mpr h), Int.max_eq_right (Int.natCast_nonneg i)]
  rfl
theorem slice_lst {α : Type} (φ : α → V) (xs : List α) {a b : Nat} (hx : xs.length ≤ 1000) (hab : a + b ≤ xs.length) : sliceV (.lst (xs.map φ)) (some (a : Int)) (some ((a + b : Nat) : Int)) = some (.lst (((xs.drop a).take b).map φ)) := by
  have hl : (xs.map φ).length = xs.length := List.length_map ..
  show (if (xs.map φ).length ≤ lim then some (V.lst (((xs.map φ).drop (clipAt (xs.map φ).length (a : Int))).take (clipAt (xs.map φ).length ((a + b : Nat) : Int) - clipAt (xs.map φ).length (a : Int)))) else none) = _
  rw [hl, clip_nat (n := xs.length) (i := a) (by lia), clip_nat (n := xs.length) (i := a + b) hab, if_pos (show xs.length ≤ lim from (by show _ ≤ 100000; lia)), Nat.add_sub_cancel_left, ← List.map_drop, ← List.map_take]
theorem ev_slc {K : Kx} {p q p1 p2 p3 p4 p5 i j l : Nat} {σ : Sto} {α : Type} {φ : α → V} {xs : List α} {a b : Nat} (hi : σ.at i = some (.lst (xs.map φ))) (hj : σ.at j = some (iv a)) (hl : σ.at l = some (iv b)) (hx : xs.length ≤ 1000) (hab : a + b ≤ xs.length) :
    ev K (.slc p q (.var p1 i) (.var p2 j) (.bin p3 .Add (.var p4 j) (.var p5 l))) false σ = some (.lst (((xs.drop a).take b).map φ)) := by
  have e : ev K (.bin p3 .Add (.var p4 j) (.var p5 l)) false σ = some (.int ((a + b : Nat) : Int)) := by
    rw [evE_bin, ev_var hj, ev_var hl]
    show some (V.int ((a : Int) + (b : Int))) = _
    congr 2
  rw [evE_slc, ev_var hi, ev_var hj, e]
  show sliceV (.lst (xs.map φ)) (some (a : Int)) (some ((a + b : Nat) : Int)) = _
  exact slice_lst φ xs hx hab

noncomputable def wnFor : S := match tln 6 b_law_row_is_told with | .cons x _ => x | _ => sD
noncomputable def wnBody : SL := match wnFor with | .forr _ _ _ b _ => b | _ => .nil
noncomputable def wpFor : S := match wnBody with | .cons x _ => x | _ => sD
noncomputable def wpBody : SL := match wpFor with | .forr _ _ _ b _ => b | _ => .nil

section
variable {ls : List (List Nat)} {rs : List Nat} {sd : Nat → Nat → List Nat} {ins : List (List Nat)} {spot : Nat} {hid : List Nat}

noncomputable abbrev unitsV (ls : List (List Nat)) (spot : Nat) (hid : List Nat) : V := .lst ((rng10.map (unitP (opP (rowP ls) ls) spot hid)).map stt)
noncomputable abbrev matesV (ls : List (List Nat)) : V := .lst ((matesP (opP (rowP ls) ls) (clP (rowP ls) ls)).map iv)

theorem row_units (x9 x10 x11 x12 : Option V) (T : RowOK ls rs sd ins) (hh : hid.length ≤ 20) :
    exL K3 (tln 4 b_law_row_is_told) (rSto ls rs sd ins spot hid x9 x10 x11 x12 none none none none none) = exL K3 (tln 5 b_law_row_is_told) (rSto ls rs sd ins spot hid x9 x10 x11 x12 none (some (unitsV ls spot hid)) none none none) := by
  refine exL_asg (v := unitsV ls spot hid) ?_ ?_
  · refine ev_comp (evI_rng10 _ _ _ _ _) (cs := [some (stt hid), some (.lst ((opP (rowP ls) ls).map iv)), some (iv spot)]) (caps_cons rfl rfl (caps_cons rfl (plain_ivs _) (caps_cons rfl rfl rfl))) (by decide) ?_
    rw [List.map_map]
    refine compL_all iv (fun p => stt (unitP (opP (rowP ls) ls) spot hid p)) (fun σ => ∃ x, σ = [x, some (stt hid), some (.lst ((opP (rowP ls) ls).map iv)), some (iv spot)]) rng10 _ ?_ ⟨none, rfl⟩
    rintro p hp σ ⟨x, rfl⟩
    refine ⟨[some (iv p), some (stt hid), some (.lst ((opP (rowP ls) ls).map iv)), some (iv spot)], rfl, ⟨_, rfl⟩, rfl, ?_, rfl⟩
    have e1 : ev K3 (.ite 222014222044 (.cmp 222021222035 .In (.var 222021222026 0) (.var 222030222035 2)) (.cstr 222014222017 "(") (.cstr 222041222044 ")")) false [some (iv p), some (stt hid), some (.lst ((opP (rowP ls) ls).map iv)), some (iv spot)] = some (stt (if (ixN (opP (rowP ls) ls) p).isSome then [40] else [41])) := by
      have g : ev K3 (.cmp 222021222035 .In (.var 222021222026 0) (.var 222030222035 2)) true [some (iv p), some (stt hid), some (.lst ((opP (rowP ls) ls).map iv)), some (iv spot)] = some (.bool (ixN (opP (rowP ls) ls) p).isSome) := by
        show Option.map V.bool (inL ((opP (rowP ls) ls).map iv) (iv p)) = _
        rw [inL_iv]; rfl
      rw [evE_ite, g]
      cases (ixN (opP (rowP ls) ls) p).isSome with
      | true =>
        show some (V.str true "(") = _
        rw [show ("(" : Str) = St8 [40] by decide +kernel]; rfl
      | false =>
        show some (V.str true ")") = _
        rw [show (")" : Str) = St8 [41] by decide +kernel]; rfl
    have e2 : ev K3 (.ite 222049222080 (.cmp 222059222072 .Eq (.var 222059222064 0) (.var 222068222072 3)) (.var 222049222055 1) (.cstr 222078222080 "")) false [some (iv p), some (stt hid), some (.lst ((opP (rowP ls) ls).map iv)), some (iv spot)] = some (stt (if p = spot then hid else [])) := by
      have g : ev K3 (.cmp 222059222072 .Eq (.var 222059222064 0) (.var 222068222072 3)) true [some (iv p), some (stt hid), some (.lst ((opP (rowP ls) ls).map iv)), some (iv spot)] = some (.bool (decide (p = spot))) := by
        show some (V.bool ((p : Int) == (spot : Int))) = _
        rw [int_beq]
      rw [evE_ite, g]
      by_cases h : p = spot
      · rw [decide_eq_true h, if_pos h]; rfl
      · rw [decide_eq_false h, if_neg h]
        show some (V.str true "") = _
        rw [show ("" : Str) = St8 [] from rfl]
    rw [evE_bin, e1, e2]
    show binV .Add (stt (if (ixN (opP (rowP ls) ls) p).isSome then [40] else [41])) (stt (if p = spot then hid else [])) = _
    rw [add_str (by split <;> split <;> simp only [List.length_cons, List.length_nil] <;> lia)]; rfl
  · unfold putV
    rw [if_pos (by rw [plain_stts]; rfl)]; rfl

theorem row_mates (x9 x10 x11 x12 x14 : Option V) (T : RowOK ls rs sd ins) :
    exL K3 (tln 5 b_law_row_is_told) (rSto ls rs sd ins spot hid x9 x10 x11 x12 none x14 none none none) = exL K3 (tln 6 b_law_row_is_told) (rSto ls rs sd ins spot hid x9 x10 x11 x12 none x14 (some (matesV ls)) none none) := by
  have lo := opP_len (rowP ls) T.l5
  have lc := clP_len (rowP ls) T.l5
  refine exL_asg (v := matesV ls) ?_ ?_
  · refine ev_comp (evI_rng10 _ _ _ _ _) (cs := [some (.lst ((clP (rowP ls) ls).map iv)), some (.lst ((opP (rowP ls) ls).map iv))]) (caps_cons rfl (plain_ivs _) (caps_cons rfl (plain_ivs _) rfl)) (by decide) ?_
    unfold matesP
    rw [List.map_map]
    refine compL_all iv (fun p => iv ((mateP (opP (rowP ls) ls) (clP (rowP ls) ls) p).getD 0)) (fun σ => ∃ x, σ = [x, some (.lst ((clP (rowP ls) ls).map iv)), some (.lst ((opP (rowP ls) ls).map iv))]) rng10 _ ?_ ⟨none, rfl⟩
    rintro p hp σ ⟨x, rfl⟩
    refine ⟨[some (iv p), some (.lst ((clP (rowP ls) ls).map iv)), some (.lst ((opP (rowP ls) ls).map iv))], rfl, ⟨_, rfl⟩, rfl, ?_, rfl⟩
    have hm := T.mate p (rng10_lt p hp)
    have g : ev K3 (.cmp 223043223057 .In (.var 223043223048 0) (.var 223052223057 2)) true [some (iv p), some (.lst ((clP (rowP ls) ls).map iv)), some (.lst ((opP (rowP ls) ls).map iv))] = some (.bool (ixN (opP (rowP ls) ls) p).isSome) := by
      show Option.map V.bool (inL ((opP (rowP ls) ls).map iv) (iv p)) = _
      rw [inL_iv]; rfl
    rw [evE_ite, g]
    unfold mateP at hm ⊢
    cases ho : ixN (opP (rowP ls) ls) p with
    | some i =>
      have hi := ixN_lt ho
      have e1 : ev K3 (.meth 223020223038 223020223031 (.var 223020223025 2) "index" (.cons (.var 223032223037 0) .nil)) false [some (iv p), some (.lst ((clP (rowP ls) ls).map iv)), some (.lst ((opP (rowP ls) ls).map iv))] = some (iv i) := by
        show methV "index" (.lst ((opP (rowP ls) ls).map iv)) [iv p] = _
        exact meth_index (by lia) ho
      show ev K3 (.idx 223013223039 (.var 223013223019 1) (.meth 223020223038 223020223031 (.var 223020223025 2) "index" (.cons (.var 223032223037 0) .nil))) false [some (iv p), some (.lst ((clP (rowP ls) ls).map iv)), some (.lst ((opP (rowP ls) ls).map iv))] = _
      rw [ev_idx (ev_var (v := .lst ((clP (rowP ls) ls).map iv)) rfl) e1]
      show atV ((clP (rowP ls) ls).map iv) (i : Int) = _
      exact atV_map (by lia) (getD_at lc (by lia))
    | none =>
      rw [ho] at hm
      cases hc : ixN (clP (rowP ls) ls) p with
      | none => rw [hc] at hm; cases hm
      | some i =>
        have hi := ixN_lt hc
        have e1 : ev K3 (.meth 223069223088 223069223081 (.var 223069223075 1) "index" (.cons (.var 223082223087 0) .nil)) false [some (iv p), some (.lst ((clP (rowP ls) ls).map iv)), some (.lst ((opP (rowP ls) ls).map iv))] = some (iv i) := by
          show methV "index" (.lst ((clP (rowP ls) ls).map iv)) [iv p] = _
          exact meth_index (by lia) hc
        show ev K3 (.idx 223063223089 (.var 223063223068 2) (.meth 223069223088 223069223081 (.var 223069223075 1) "index" (.cons (.var 223082223087 0) .nil))) false [some (iv p), some (.lst ((clP (rowP ls) ls).map iv)), some (.lst ((opP (rowP ls) ls).map iv))] = _
        rw [ev_idx (ev_var (v := .lst ((opP (rowP ls) ls).map iv)) rfl) e1]
        show atV ((opP (rowP ls) ls).map iv) (i : Int) = _
        exact atV_map (by lia) (getD_at lo (by lia))
  · unfold putV
    rw [if_pos (by rw [plain_ivs]; rfl)]; rfl

theorem win_body (T : RowOK ls rs sd ins) (hh : hid.length ≤ 20) {size place : Nat} (h1 : 1 ≤ size) (h4 : size ≤ 4) (h10 : place + size ≤ 10) (x9 x10 x11 x12 x17 : Option V)
    (hw : checkP (winP (opP (rowP ls) ls) spot hid place size) = wholeP (matesP (opP (rowP ls) ls) (clP (rowP ls) ls)) place size) :
    ∃ y17, exL K3 wpBody (rSto ls rs sd ins spot hid x9 x10 x11 x12 (some (iv place)) (some (unitsV ls spot hid)) (some (matesV ls)) (some (iv size)) x17) =
      some (.next, rSto ls rs sd ins spot hid x9 x10 x11 x12 (some (iv place)) (some (unitsV ls spot hid)) (some (matesV ls)) (some (iv size)) y17) := by
  have hml : (matesP (opP (rowP ls) ls) (clP (rowP ls) ls)).length = 10 := by unfold matesP; rw [List.length_map]; rfl
  have hul : (rng10.map (unitP (opP (rowP ls) ls) spot hid)).length = 10 := by rw [List.length_map]; rfl
  refine ⟨some (.bool (wholeP (matesP (opP (rowP ls) ls) (clP (rowP ls) ls)) place size)), ?_⟩
  have hmlen : (((matesP (opP (rowP ls) ls) (clP (rowP ls) ls)).drop place).take size).length = size := by rw [List.length_take, List.length_drop]; lia
  have s1 : exL K3 wpBody (rSto ls rs sd ins spot hid x9 x10 x11 x12 (some (iv place)) (some (unitsV ls spot hid)) (some (matesV ls)) (some (iv size)) x17) =
      exL K3 (tln 1 wpBody) (rSto ls rs sd ins spot hid x9 x10 x11 x12 (some (iv place)) (some (unitsV ls spot hid)) (some (matesV ls)) (some (iv size)) (some (.bool (wholeP (matesP (opP (rowP ls) ls) (clP (rowP ls) ls)) place size)))) := by
    refine exL_asg (v := .bool (wholeP (matesP (opP (rowP ls) ls) (clP (rowP ls) ls)) place size)) ?_ rfl
    have es : ∀ {p q p1 p2 p3 p4 p5 : Nat}, ev K3 (.slc p q (.var p1 15) (.var p2 13) (.bin p3 .Add (.var p4 13) (.var p5 16))) false (rSto ls rs sd ins spot hid x9 x10 x11 x12 (some (iv place)) (some (unitsV ls spot hid)) (some (matesV ls)) (some (iv size)) x17) = some (.lst ((((matesP (opP (rowP ls) ls) (clP (rowP ls) ls)).drop place).take size).map iv)) := fun {p q p1 p2 p3 p4 p5} =>
      ev_slc (xs := matesP (opP (rowP ls) ls) (clP (rowP ls) ls)) rfl rfl rfl (by lia) (by lia)
    unfold wholeP
    cases hm : ((matesP (opP (rowP ls) ls) (clP (rowP ls) ls)).drop place).take size with
    | nil => rw [hm] at hmlen; simp at hmlen; lia
    | cons a as =>
      rw [hm] at es
      have g1 : ev K3 (.cmp 226020226059 .GtE (.bcall 226020226050 226020226023 "min" (.cons (.slc 226024226049 226030226048 (.var 226024226029 15) (.var 226030226035 13) (.bin 226036226048 .Add (.var 226036226041 13) (.var 226044226048 16))) .nil)) (.var 226054226059 13)) false (rSto ls rs sd ins spot hid x9 x10 x11 x12 (some (iv place)) (some (unitsV ls spot hid)) (some (matesV ls)) (some (iv size)) x17) = some (.bool (decide (place ≤ minN a as))) := by
        have e : ev K3 (.bcall 226020226050 226020226023 "min" (.cons (.slc 226024226049 226030226048 (.var 226024226029 15) (.var 226030226035 13) (.bin 226036226048 .Add (.var 226036226041 13) (.var 226044226048 16))) .nil)) false (rSto ls rs sd ins spot hid x9 x10 x11 x12 (some (iv place)) (some (unitsV ls spot hid)) (some (matesV ls)) (some (iv size)) x17) = some (iv (minN a as)) := by
          rw [evE_bcall, evL_cons, es, evL_nil]
          exact bi_min a as
        rw [evE_cmp, e, ev_var (v := iv place) rfl]
        show some (V.bool (decide ((place : Int) ≤ (minN a as : Int)))) = _
        simp only [Int.ofNat_le]
      have g2 : ev K3 (.cmp 226064226109 .Lt (.bcall 226064226094 226064226067 "max" (.cons (.slc 226068226093 226074226092 (.var 226068226073 15) (.var 226074226079 13) (.bin 226080226092 .Add (.var 226080226085 13) (.var 226088226092 16))) .nil)) (.bin 226097226109 .Add (.var 226097226102 13) (.var 226105226109 16))) false (rSto ls rs sd ins spot hid x9 x10 x11 x12 (some (iv place)) (some (unitsV ls spot hid)) (some (matesV ls)) (some (iv size)) x17) = some (.bool (decide (maxN a as < place + size))) := by
        have e : ev K3 (.bcall 226064226094 226064226067 "max" (.cons (.slc 226068226093 226074226092 (.var 226068226073 15) (.var 226074226079 13) (.bin 226080226092 .Add (.var 226080226085 13) (.var 226088226092 16))) .nil)) false (rSto ls rs sd ins spot hid x9 x10 x11 x12 (some (iv place)) (some (unitsV ls spot hid)) (some (matesV ls)) (some (iv size)) x17) = some (iv (maxN a as)) := by
          rw [evE_bcall, evL_cons, es, evL_nil]
          exact bi_max a as
        have e' : ev K3 (.bin 226097226109 .Add (.var 226097226102 13) (.var 226105226109 16)) false (rSto ls rs sd ins spot hid x9 x10 x11 x12 (some (iv place)) (some (unitsV ls spot hid)) (some (matesV ls)) (some (iv size)) x17) = some (.int ((place + size : Nat) : Int)) := by
          rw [evE_bin, ev_var (v := iv place) rfl, ev_var (v := iv size) rfl]
          show some (V.int ((place : Int) + (size : Int))) = _
          congr 2
        rw [evE_cmp, e, e']
        show some (V.bool (decide ((maxN a as : Int) < ((place + size : Nat) : Int)))) = _
        simp only [Int.ofNat_lt]
      show ev K3 (.boo _ .And _ _) false _ = _
      rw [evE_boo, g1]
      show Option.bind (some (decide (place ≤ minN a as))) _ = some (V.bool (decide (place ≤ minN a as) && decide (maxN a as < place + size)))
      cases decide (place ≤ minN a as) with
      | false => rfl
      | true =>
        show Option.map V.bool (unB (ev K3 _ false _)) = _
        rw [g2]; rfl
  refine s1.trans ((exL_iffF (xs := .nil) ?_ rfl).trans rfl)
  refine evT_isnot (x := checkP (winP (opP (rowP ls) ls) spot hid place size)) (y := wholeP (matesP (opP (rowP ls) ls) (clP (rowP ls) ls)) place size) ?_ rfl hw
  have hmem : ∀ w ∈ ((rng10.map (unitP (opP (rowP ls) ls) spot hid)).drop place).take size, w.length ≤ 21 := by
    intro w hw
    have h1 := List.mem_of_mem_drop (List.mem_of_mem_take hw)
    obtain ⟨p, _, rfl⟩ := List.mem_map.mp h1
    unfold unitP
    rw [List.length_append]
    split <;> split <;> simp only [List.length_cons, List.length_nil] <;> lia
  have hulen : (((rng10.map (unitP (opP (rowP ls) ls) spot hid)).drop place).take size).length = size := by rw [List.length_take, List.length_drop]; lia
  have hflat : ∀ ws : List (List Nat), (∀ w ∈ ws, w.length ≤ 21) → ws.flatten.length ≤ 21 * ws.length := by
    intro ws
    induction ws with
    | nil => intro _; exact Nat.le_refl _
    | cons w ws ih =>
      intro h
      have h1 := h w (List.mem_cons_self ..)
      have h2 := ih fun z hz => h z (List.mem_cons_of_mem _ hz)
      rw [List.flatten_cons, List.length_append, List.length_cons]
      lia
  have hfl := hflat _ hmem
  rw [hulen] at hfl
  have e1 : ev K3 (.slc 227042227067 227048227066 (.var 227042227047 14) (.var 227048227053 13) (.bin 227054227066 .Add (.var 227054227059 13) (.var 227062227066 16))) false (rSto ls rs sd ins spot hid x9 x10 x11 x12 (some (iv place)) (some (unitsV ls spot hid)) (some (matesV ls)) (some (iv size)) (some (.bool (wholeP (matesP (opP (rowP ls) ls) (clP (rowP ls) ls)) place size)))) = some (.lst ((((rng10.map (unitP (opP (rowP ls) ls) spot hid)).drop place).take size).map stt)) :=
    ev_slc (φ := stt) (xs := rng10.map (unitP (opP (rowP ls) ls) spot hid)) rfl rfl rfl (by lia) (by lia)
  have e2 : ev K3 (.meth 227034227068 227034227041 (.cstr 227034227036 "") "join" (.cons (.slc 227042227067 227048227066 (.var 227042227047 14) (.var 227048227053 13) (.bin 227054227066 .Add (.var 227054227059 13) (.var 227062227066 16))) .nil)) false (rSto ls rs sd ins spot hid x9 x10 x11 x12 (some (iv place)) (some (unitsV ls spot hid)) (some (matesV ls)) (some (iv size)) (some (.bool (wholeP (matesP (opP (rowP ls) ls) (clP (rowP ls) ls)) place size)))) = some (sf (winP (opP (rowP ls) ls) spot hid place size)) := by
    rw [evE_meth, evL_cons, e1, evL_nil]
    exact meth_join _ (by lia) (fun w hw => by have := hmem w hw; lia)
  refine ev_gcall (vs := [sf (winP (opP (rowP ls) ls) spot hid place size)]) ?_ (check_K3 false _ (by unfold winP; lia)) rfl rfl
  rw [evL_cons, e2, evL_nil]; rfl

theorem row_K4 (T : RowOK ls rs sd ins) (hh : hid.length ≤ 20)
    (hw : ∀ size, (size = 2 ∨ size = 4) → ∀ place, place + size ≤ 10 → checkP (winP (opP (rowP ls) ls) spot hid place size) = wholeP (matesP (opP (rowP ls) ls) (clP (rowP ls) ls)) place size) :
    K4.F "_law_row_is_told" [.lst (ls.map stt), .lst (rs.map iv), vS sd, .lst (ins.map stt), iv spot, stt hid] = some (.bool true) := by
  obtain ⟨x9, x10, x11, x12, s3⟩ := ru_loop (spot := spot) (hid := hid) T
  have inner : ∀ size, (size = 2 ∨ size = 4) → ∀ x13 x17, ∃ y13 y17, exL K3 wnBody (rSto ls rs sd ins spot hid x9 x10 x11 x12 x13 (some (unitsV ls spot hid)) (some (matesV ls)) (some (iv size)) x17) = some (.next, rSto ls rs sd ins spot hid x9 x10 x11 x12 y13 (some (unitsV ls spot hid)) (some (matesV ls)) (some (iv size)) y17) := by
    intro size hs x13 x17
    obtain ⟨τ, hτ, e⟩ := forL_gen (put := putT 18 (.t1 225012225017 13)) (body := exL K3 wpBody) (els := exL K3 .nil) iv
      (fun σ => ∃ x13 x17, σ = rSto ls rs sd ins spot hid x9 x10 x11 x12 x13 (some (unitsV ls spot hid)) (some (matesV ls)) (some (iv size)) x17) (List.range (11 - size)) (rSto ls rs sd ins spot hid x9 x10 x11 x12 x13 (some (unitsV ls spot hid)) (some (matesV ls)) (some (iv size)) x17) (by
        rintro place hp σ ⟨x13, x17, rfl⟩
        have hp' := List.mem_range.mp hp
        obtain ⟨y17, e⟩ := win_body T hh (spot := spot) (size := size) (place := place) (by lia) (by lia) (by lia) x9 x10 x11 x12 x17 (hw size hs place (by lia))
        exact ⟨_, _, rfl, e, _, _, rfl⟩) ⟨_, _, rfl⟩
    obtain ⟨y13, y17, rfl⟩ := hτ
    refine ⟨y13, y17, (exL_next (xs := .nil) ?_).trans rfl⟩
    have hr : evI K3 (match wpFor with | .forr _ _ it _ _ => it | _ => .own 0 0) (rSto ls rs sd ins spot hid x9 x10 x11 x12 x13 (some (unitsV ls spot hid)) (some (matesV ls)) (some (iv size)) x17) = some ((List.range (11 - size)).map iv) := by
      rcases hs with rfl | rfl <;> rfl
    exact (exS_forI K3 225008228028 (.t1 225012225017 13) (match wpFor with | .forr _ _ it _ _ => it | _ => .own 0 0) wpBody .nil _ _ hr rfl).trans e
  obtain ⟨τ, hτ, e⟩ := forL_gen (put := putT 18 (.t1 224008224012 16)) (body := exL K3 wnBody) (els := exL K3 .nil) iv
    (fun σ => ∃ x13 x16 x17, σ = rSto ls rs sd ins spot hid x9 x10 x11 x12 x13 (some (unitsV ls spot hid)) (some (matesV ls)) x16 x17) [2, 4] (rSto ls rs sd ins spot hid x9 x10 x11 x12 none (some (unitsV ls spot hid)) (some (matesV ls)) none none) (by
      rintro size hs σ ⟨x13, x16, x17, rfl⟩
      obtain ⟨y13, y17, e⟩ := inner size (by simpa using hs) x13 x17
      exact ⟨_, _, rfl, e, _, _, _, rfl⟩) ⟨_, _, _, rfl⟩
  refine more_at (tabF_at (L := L4) rfl rfl (runF_of (σ := τ) ?_))
  show exL K3 b_law_row_is_told (rHead ls rs sd ins spot hid ++ List.replicate 12 none) = _
  rw [row_head T, s3, row_units x9 x10 x11 x12 T hh, row_mates x9 x10 x11 x12 _ T]
  refine (exL_next (σ' := τ) ?_).trans rfl
  rw [exS_forI (vs := [2, 4].map iv) (h := rfl) (hn := rfl)]
  exact e
end
end Mine

namespace Mine
open PySem PySem.W PySem.Calls PyProof.Rows PySem.Builtin PySem.Builtin.Str PySem.StrLaws

/-! the law's body -/
noncomputable def dues : List (Nat × Int) := [(0, 4), (1, 1), (2, 6), (3, 4), (4, 2)]
noncomputable def keyP (ns : List Int) (x : Nat × Int) : Int := if x.1 < ns.length then ns.getD x.1 0 else x.2
noncomputable def keysP (ns : List Int) : List Int := dues.map (keyP ns)
noncomputable def rankP (ks : List Int) (k : Nat) : Nat := (rng5.filter fun j => decide (ks.getD j 0 < ks.getD k 0) || (decide (ks.getD j 0 = ks.getD k 0) && decide (j < k))).length
noncomputable def hids : List (List Nat) := [[], [34, 92, 34, 40, 34], [92, 41], [92, 92], [34]]
noncomputable def insK (k : Nat) : List (List Nat) := if k = 4 then [[60]] else [[60], [62]]

structure LawOK (ks : List Int) (k s h : Nat) (ps : List (List Bool)) : Prop where
  k5 : k < 5
  h5 : h < 5
  l5 : ks.length = 5
  names : namesP (fun u i => decide (ks.getD u 0 < ks.getD i 0)) 5 [] = some ps
  tree : TreeOK ps (sideP (rng5.map (rankP ks)))
  row1 : RowOK (ps.map (W 9)) (rng5.map (rankP ks)) (sideP (rng5.map (rankP ks))) [[60]]
  row2 : RowOK (ps.map (W k)) (rng5.map (rankP ks)) (sideP (rng5.map (rankP ks))) (insK k)
  win1 : ∀ size, (size = 2 ∨ size = 4) → ∀ place, place + size ≤ 10 → checkP (winP (opP (rowP (ps.map (W 9))) (ps.map (W 9))) s (hids.getD h []) place size) = wholeP (matesP (opP (rowP (ps.map (W 9))) (ps.map (W 9))) (clP (rowP (ps.map (W 9))) (ps.map (W 9)))) place size
  win2 : ∀ size, (size = 2 ∨ size = 4) → ∀ place, place + size ≤ 10 → checkP (winP (opP (rowP (ps.map (W k))) (ps.map (W k))) s (hids.getD h []) place size) = wholeP (matesP (opP (rowP (ps.map (W k))) (ps.map (W k))) (clP (rowP (ps.map (W k))) (ps.map (W k)))) place size

noncomputable abbrev scV (ns : List Int) : V := .lst (ns.map V.int)
theorem ev_iteT {K : Kx} {p : Nat} {c a b : X} {σ : Sto} (h : ev K c true σ = some (.bool true)) : ev K (.ite p c a b) false σ = ev K a false σ := by rw [evE_ite, h]; rfl
theorem ev_iteF {K : Kx} {p : Nat} {c a b : X} {σ : Sto} (h : ev K c true σ = some (.bool false)) : ev K (.ite p c a b) false σ = ev K b false σ := by rw [evE_ite, h]; rfl
theorem bi_len {xs : List V} (h : xs.length ≤ 100000) : biV "len" [.lst xs] = some (iv xs.length) := by
  show (if xs.length ≤ lim then some (V.int xs.length) else none) = _
  rw [if_pos (show xs.length ≤ lim from h)]
theorem getD_int {ks : List Int} {u : Nat} (hu : u < ks.length) : ks[u]? = some (ks.getD u 0) := by
  rw [List.getD_eq_getElem?_getD, List.getElem?_eq_getElem hu]; rfl

theorem law_keys (ns : List Int) (hn : ns.length ≤ 63) (r : Sto) :
    exL K4 blaw (some (scV ns) :: none :: r) = exL K4 (tln 1 blaw) (some (scV ns) :: some (.lst ((keysP ns).map V.int)) :: r) := by
  refine exL_asg (v := .lst ((keysP ns).map V.int)) ?_ ?_
  · refine ev_comp (vs := dues.map fun x => .tup [iv x.1, .int x.2]) (ws := (keysP ns).map V.int) (cs := [some (scV ns)]) rfl (caps_cons rfl (plain_ints ns) rfl) (by decide) ?_
    unfold keysP
    rw [List.map_map]
    refine compL_all (fun x : Nat × Int => V.tup [iv x.1, .int x.2]) (fun x => .int (keyP ns x)) (fun σ => ∃ a b, σ = [a, b, some (scV ns)]) dues _ ?_ ⟨none, none, rfl⟩
    rintro x hx σ ⟨a, b, rfl⟩
    refine ⟨[some (iv x.1), some (.int x.2), some (scV ns)], rfl, ⟨_, _, rfl⟩, rfl, ?_, rfl⟩
    have e1 : ev K4 (.bcall 231029231040 231029231032 "len" (.cons (.var 231033231039 2) .nil)) false [some (iv x.1), some (.int x.2), some (scV ns)] = some (iv ns.length) := by
      have := bi_len (xs := ns.map V.int) (by rw [List.length_map]; lia)
      rw [List.length_map] at this
      exact this
    have e2 : ev K4 (.cmp 231025231040 .Lt (.var 231025231026 0) (.bcall 231029231040 231029231032 "len" (.cons (.var 231033231039 2) .nil))) true [some (iv x.1), some (.int x.2), some (scV ns)] = some (.bool (decide (x.1 < ns.length))) := by
      rw [evE_cmp, ev_var (v := iv x.1) rfl, e1]
      show some (V.bool (decide ((x.1 : Int) < (ns.length : Int)))) = _
      simp only [Int.ofNat_lt]
    unfold keyP
    by_cases h : x.1 < ns.length
    · rw [if_pos h]
      rw [decide_eq_true h] at e2
      refine (ev_iteT e2).trans ?_
      rw [ev_idx (ev_var (v := scV ns) rfl) (ev_var (v := iv x.1) rfl)]
      show atV (ns.map V.int) (x.1 : Int) = _
      exact atV_map (by lia) (getD_int h)
    · rw [if_neg h]
      rw [decide_eq_false h] at e2
      exact (ev_iteF e2).trans rfl
  · unfold putV
    rw [if_pos (by rw [plain_ints]; rfl)]; rfl

theorem intsOf_int : ∀ ns : List Int, intsOf (ns.map V.int) = some ns
  | [] => rfl
  | a :: as => by
    show (intsOf (as.map V.int)).map _ = _
    rw [intsOf_int as]; rfl
noncomputable def totP (ns : List Int) : Int := 80 + sumI 0 ns
theorem law_total (ns : List Int) (x1 : Option V) (r : Sto) :
    exL K4 (tln 1 blaw) (some (scV ns) :: x1 :: none :: r) = exL K4 (tln 2 blaw) (some (scV ns) :: x1 :: some (.int (totP ns)) :: r) := by
  refine exL_asg (v := .int (totP ns)) ?_ rfl
  have e : ev K4 (.bcall 232017232028 232017232020 "sum" (.cons (.var 232021232027 0) .nil)) false (some (scV ns) :: x1 :: none :: r) = some (.int (sumI 0 ns)) := by
    show (match intsOf (ns.map V.int) with | some as => some (V.int (sumI 0 as)) | _ => none) = _
    rw [intsOf_int]
  rw [evE_bin, e]; rfl
theorem ev_mod {K : Kx} {p q : Nat} {x : X} {σ : Sto} {a : Int} {b : Nat} (hx : ev K x false σ = some (.int a)) (hb : 0 < b) : ev K (.bin p .Mod x (.cint q b)) false σ = some (.int (a.fmod b)) := by
  rw [evE_bin, hx]
  show (if (b : Int) == 0 then none else some (V.int (a.fmod b))) = _
  rw [if_neg (by simp; lia)]
theorem ev_div {K : Kx} {p q : Nat} {x : X} {σ : Sto} {a : Int} {b : Nat} (hx : ev K x false σ = some (.int a)) (hb : 0 < b) (hb' : b < 100) : ev K (.bin p .FloorDiv x (.cint q b)) false σ = some (.int (a.fdiv b)) := by
  rw [evE_bin, hx]
  show (if ((b : Int) == 0 || Builtin.divisionGoesByPylong a b) = true then none else some (V.int (a.fdiv b))) = _
  rw [PyProof.noPylong_small (by lia), if_neg (by simp; lia)]
theorem law_parts (ns : List Int) {k s h : Nat} (hh : h < 5) (hk : (totP ns).fmod 5 = (k : Int)) (hs : ((totP ns).fdiv 5).fmod 10 = (s : Int)) (hi : (((totP ns).fdiv 5).fdiv 10).fmod 5 = (h : Int)) (x0 x1 : Option V) (r : Sto) :
    exL K4 (tln 2 blaw) (x0 :: x1 :: some (.int (totP ns)) :: none :: none :: none :: none :: r) = exL K4 (tln 4 blaw) (x0 :: x1 :: some (.int (totP ns)) :: some (iv k) :: some (.int ((totP ns).fdiv 5)) :: some (iv s) :: some (stt (hids.getD h [])) :: r) := by
  have s1 : exL K4 (tln 2 blaw) (x0 :: x1 :: some (.int (totP ns)) :: none :: none :: none :: none :: r) = exL K4 (tln 3 blaw) (x0 :: x1 :: some (.int (totP ns)) :: some (iv k) :: some (.int ((totP ns).fdiv 5)) :: none :: none :: r) := by
    refine exL_next ?_
    have em : ∀ {p q r' : Nat}, ev K4 (.bin p .Mod (.var q 2) (.cint r' 5)) false (x0 :: x1 :: some (.int (totP ns)) :: none :: none :: none :: none :: r) = some (iv k) := fun {p q r'} =>
      (ev_mod (a := totP ns) (b := 5) (ev_var rfl) (by decide)).trans (congrArg (fun z => some (V.int z)) hk)
    rw [exS_asg2, em, ev_div (a := totP ns) (ev_var rfl) (by decide) (by decide)]
    rfl
  have s2 : exL K4 (tln 3 blaw) (x0 :: x1 :: some (.int (totP ns)) :: some (iv k) :: some (.int ((totP ns).fdiv 5)) :: none :: none :: r) = exL K4 (tln 4 blaw) (x0 :: x1 :: some (.int (totP ns)) :: some (iv k) :: some (.int ((totP ns).fdiv 5)) :: some (iv s) :: some (stt (hids.getD h [])) :: r) := by
    refine exL_next ?_
    have e1 : ev K4 (.idx 234031234081 (.tup 234031234065 (.cons (.cstr 234032234034 "") (.cons (.cstr 234036234044 "\"\\\"(\"") (.cons (.cstr 234046234051 "\\)") (.cons (.cstr 234053234059 "\\\\") (.cons (.cstr 234061234064 "\"") .nil)))))) (.bin 234066234080 .Mod (.bin 234066234076 .FloorDiv (.var 234066234070 4) (.cint 234074234076 10)) (.cint 234079234080 5))) false (x0 :: x1 :: some (.int (totP ns)) :: some (iv k) :: some (.int ((totP ns).fdiv 5)) :: none :: none :: r) = some (stt (hids.getD h [])) := by
      rw [ev_idx (x := .tup (hids.map stt)) (y := iv h) ?_ ?_]
      · show atV (hids.map stt) (h : Int) = _
        refine atV_map (by lia) ?_
        rw [List.getD_eq_getElem?_getD, List.getElem?_eq_getElem (show h < hids.length from hh)]; rfl
      · show (if (plains [V.str true "", V.str true "\"\\\"(\"", V.str true "\\)", V.str true "\\\\", V.str true "\""] && decide (5 ≤ lim)) = true then some (V.tup [V.str true "", V.str true "\"\\\"(\"", V.str true "\\)", V.str true "\\\\", V.str true "\""]) else none) = _
        rw [show ("" : Str) = St8 [] from rfl, show ("\"\\\"(\"" : Str) = St8 [34, 92, 34, 40, 34] by decide +kernel, show ("\\)" : Str) = St8 [92, 41] by decide +kernel, show ("\\\\" : Str) = St8 [92, 92] by decide +kernel, show ("\"" : Str) = St8 [34] by decide +kernel]
        rfl
      · rw [ev_mod (ev_div (a := (totP ns).fdiv 5) (ev_var rfl) (by decide) (by decide)) (by decide)]
        exact congrArg (fun z => some (V.int z)) hi
    have em : ∀ {p q r' : Nat}, ev K4 (.bin p .Mod (.var q 4) (.cint r' 10)) false (x0 :: x1 :: some (.int (totP ns)) :: some (iv k) :: some (.int ((totP ns).fdiv 5)) :: none :: none :: r) = some (iv s) := fun {p q r'} =>
      (ev_mod (a := (totP ns).fdiv 5) (b := 10) (ev_var rfl) (by decide)).trans (congrArg (fun z => some (V.int z)) hs)
    rw [exS_asg2, em, e1]
    rfl
  exact s1.trans s2
end Mine

namespace Mine
open PySem PySem.W PySem.Calls PyProof.Rows PySem.Builtin PySem.Builtin.Str PySem.StrLaws

theorem eqsL_same (l : List (List Nat)) : eqsL (l.map stt) (l.map sf) = some true := by
  induction l with
  | nil => rfl
  | cons a l ih =>
    show (match some (St8 a == St8 a), eqsL (l.map stt) (l.map sf) with | some p, some q => some (p && q) | _, _ => none) = _
    rw [ih, st_beq, decide_eq_true rfl]; rfl
theorem W9_38 (p : List Bool) : 38 ∈ W 9 p := List.mem_append_left _ (List.mem_singleton.mpr rfl)
theorem mem_pt {ps : List (List Bool)} (h : ps.length = 5) {p : List Bool} (hp : p ∈ ps) : ∃ u, u < 5 ∧ p = pt ps u := by
  obtain ⟨i, hi, rfl⟩ := List.mem_iff_getElem.mp hp
  refine ⟨i, by omega, ?_⟩
  unfold pt
  rw [List.getD_eq_getElem?_getD, List.getElem?_eq_getElem hi]; rfl
theorem plain_vW (k : Nat) (ps : List (List Bool)) : (vW k ps).plain = true := plains_map (fun p => stt (W k p)) (fun _ => rfl) ps
theorem vN_eq (ps : List (List Bool)) : vN ps = .lst ((ps.map (W 9)).map stt) := by unfold vN; rw [nmV_eq]
theorem vW_lst (k : Nat) (ps : List (List Bool)) : vW k ps = .lst ((ps.map (W k)).map stt) := by unfold vW; rw [List.map_map]; rfl
theorem plain_vN (ps : List (List Bool)) : (vN ps).plain = true := plains_nmV ps

section
variable {ns : List Int} {k s h : Nat} {ps : List (List Bool)} {x0 x2 x4 : Option V}

noncomputable abbrev lSto (ks : List Int) (k s h : Nat) (x0 x2 x4 x7 x8 x9 x10 x11 : Option V) : Sto :=
  [x0, some (.lst (ks.map V.int)), x2, some (iv k), x4, some (iv s), some (stt (hids.getD h [])), x7, x8, x9, x10, x11]

variable {ks : List Int}

theorem law_names (T : LawOK ks k s h ps) : exL K4 (tln 4 blaw) (lSto ks k s h x0 x2 x4 none none none none none) = exL K4 (tln 5 blaw) (lSto ks k s h x0 x2 x4 (some (vN ps)) none none none none) := by
  refine exL_asg (v := vN ps) ?_ ?_
  · refine ev_gcall (vs := [.lst (ks.map V.int)]) rfl (up4 (by decide +kernel) (up3 (by decide +kernel) (names_K2 ks (by rw [T.l5]; decide) (by rw [T.l5]; exact T.names)))) ?_ ?_
    · show (plains (ks.map V.int) && true) = true
      rw [show plains (ks.map V.int) = true from plain_ints ks]; rfl
    · show ((vN ps).plain && _) = true
      rw [plain_vN]; rfl
  · unfold putV
    rw [if_pos (by rw [plain_vN]; rfl)]; rfl

noncomputable def kdFor : S := match tln 5 blaw with | .cons x _ => x | _ => sD
noncomputable def kdBody : SL := match kdFor with | .forr _ _ _ b _ => b | _ => .nil
theorem sg_len (T : LawOK ks k s h ps) {p : List Bool} (hp : p ∈ ps) : (W 9 p).length ≤ 100 := by
  obtain ⟨u, hu, rfl⟩ := mem_pt T.tree.len hp
  have h1 := W9_len (pt ps u)
  have h2 := T.tree.short u hu
  lia
theorem written_K4 (T : LawOK ks k s h ps) {kd : Nat} (hkd : kd < 5) {p : List Bool} (hp : p ∈ ps) : K4.F "_law_written" [iv kd, stt (W 9 p)] = some (stt (W kd p)) := by
  have := written_K2 kd hkd true (W 9 p) (W9_38 p) (W9_sg p) (sg_len T hp)
  rw [wrK_W hkd] at this
  exact up4 (by decide +kernel) (up3 (by decide +kernel) this)
theorem spelled_K4 (T : LawOK ks k s h ps) {kd : Nat} (hkd : kd < 5) {p : List Bool} (hp : p ∈ ps) : K4.F "_law_spelled" [iv kd, stt (W 9 p)] = some (sf (W kd p)) := by
  have := spelled_K1 kd (W 9 p) (W9_sg p) (sg_len T hp)
  rw [wrK_W hkd] at this
  exact up4 (by decide +kernel) (up3 (by decide +kernel) (up2 (by decide +kernel) this))
theorem iter_names {K : Kx} {p i : Nat} {σ : Sto} (h : σ.at i = some (vN ps)) : evI K (.val (.var p i)) σ = some (ps.map fun p => stt (W 9 p)) := by
  show Option.bind (ev K (.var p i) false σ) iterV = _
  rw [ev_var h]
  show (if plains (nmV ps) = true then some (nmV ps) else none) = _
  rw [if_pos (plains_nmV ps)]
theorem len_names (T : LawOK ks k s h ps) : (ps.map fun p => stt (W 9 p)).length ≤ 100000 := by rw [List.length_map, T.tree.len]; decide

theorem kd_body (T : LawOK ks k s h ps) {kd : Nat} (hkd : kd < 5) (x9 x10 x11 : Option V) :
    exL K4 kdBody (lSto ks k s h x0 x2 x4 (some (vN ps)) (some (iv kd)) x9 x10 x11) = some (.next, lSto ks k s h x0 x2 x4 (some (vN ps)) (some (iv kd)) x9 x10 x11) := by
  refine (exL_iffF (xs := .nil) ?_ rfl).trans rfl
  have e1 : ev K4 (match kdBody with | .cons (.iff _ (.cmp _ _ a _) _ _) _ => a | _ => xD) false (lSto ks k s h x0 x2 x4 (some (vN ps)) (some (iv kd)) x9 x10 x11) = some (.lst ((ps.map (W kd)).map stt)) := by
    refine ev_comp (iter_names rfl) (cs := [some (iv kd)]) (caps_cons rfl rfl rfl) (len_names T) ?_
    rw [List.map_map]
    refine compL_all (fun p => stt (W 9 p)) (fun p => stt (W kd p)) (fun σ => ∃ x, σ = [x, some (iv kd)]) ps _ ?_ ⟨none, rfl⟩
    rintro p hp σ ⟨x, rfl⟩
    exact ⟨[some (stt (W 9 p)), some (iv kd)], rfl, ⟨_, rfl⟩, rfl, ev_gcall (vs := [iv kd, stt (W 9 p)]) rfl (written_K4 T hkd hp) rfl rfl, rfl⟩
  have e2 : ev K4 (match kdBody with | .cons (.iff _ (.cmp _ _ _ b) _ _) _ => b | _ => xD) false (lSto ks k s h x0 x2 x4 (some (vN ps)) (some (iv kd)) x9 x10 x11) = some (.lst ((ps.map (W kd)).map sf)) := by
    refine ev_comp (iter_names rfl) (cs := [some (iv kd)]) (caps_cons rfl rfl rfl) (len_names T) ?_
    rw [List.map_map]
    refine compL_all (fun p => stt (W 9 p)) (fun p => sf (W kd p)) (fun σ => ∃ x, σ = [x, some (iv kd)]) ps _ ?_ ⟨none, rfl⟩
    rintro p hp σ ⟨x, rfl⟩
    exact ⟨[some (stt (W 9 p)), some (iv kd)], rfl, ⟨_, rfl⟩, rfl, ev_gcall (vs := [iv kd, stt (W 9 p)]) rfl (spelled_K4 T hkd hp) rfl rfl, rfl⟩
  show evT K4 (.cmp _ .NotEq (match kdBody with | .cons (.iff _ (.cmp _ _ a _) _ _) _ => a | _ => xD) (match kdBody with | .cons (.iff _ (.cmp _ _ _ b) _ _) _ => b | _ => xD)) _ = _
  rw [evT_eq]
  rw [evE_cmp, e1, e2]
  show unB (Option.map V.bool (if ((ps.map (W kd)).map stt).length == ((ps.map (W kd)).map sf).length then (eqsL ((ps.map (W kd)).map stt) ((ps.map (W kd)).map sf)).map (!·) else some true)) = _
  rw [if_pos (by simp), eqsL_same]; rfl

theorem law_kinds (T : LawOK ks k s h ps) : ∃ x8, exL K4 (tln 5 blaw) (lSto ks k s h x0 x2 x4 (some (vN ps)) none none none none) = exL K4 (tln 6 blaw) (lSto ks k s h x0 x2 x4 (some (vN ps)) x8 none none none) := by
  obtain ⟨τ, hτ, e⟩ := forL_gen (put := putT 12 (.t1 236008236012 8)) (body := exL K4 kdBody) (els := exL K4 .nil) iv
    (fun σ => ∃ x8, σ = lSto ks k s h x0 x2 x4 (some (vN ps)) x8 none none none) [0, k] (lSto ks k s h x0 x2 x4 (some (vN ps)) none none none none) (by
      rintro kd hkd σ ⟨x8, rfl⟩
      have hk5 := T.k5
      have : kd < 5 := by
        simp only [List.mem_cons, List.not_mem_nil, or_false] at hkd
        rcases hkd with rfl | rfl <;> omega
      exact ⟨_, _, rfl, kd_body T this _ _ _, _, rfl⟩) ⟨_, rfl⟩
  obtain ⟨x8, rfl⟩ := hτ
  refine ⟨x8, exL_next ?_⟩
  exact (exS_forI K4 236004238024 (.t1 236008236012 8) (match kdFor with | .forr _ _ it _ _ => it | _ => .own 0 0) kdBody .nil _ ([0, k].map iv) rfl rfl).trans e

theorem law_written (T : LawOK ks k s h ps) (x8 : Option V) : exL K4 (tln 6 blaw) (lSto ks k s h x0 x2 x4 (some (vN ps)) x8 none none none) = exL K4 (tln 7 blaw) (lSto ks k s h x0 x2 x4 (some (vN ps)) x8 (some (vW k ps)) none none) := by
  refine exL_asg (v := vW k ps) ?_ ?_
  · refine ev_comp (iter_names rfl) (cs := [some (iv k)]) (caps_cons rfl rfl rfl) (len_names T) ?_
    refine compL_all (fun p => stt (W 9 p)) (fun p => stt (W k p)) (fun σ => ∃ x, σ = [x, some (iv k)]) ps _ ?_ ⟨none, rfl⟩
    rintro p hp σ ⟨x, rfl⟩
    exact ⟨[some (stt (W 9 p)), some (iv k)], rfl, ⟨_, rfl⟩, rfl, ev_gcall (vs := [iv k, stt (W 9 p)]) rfl (written_K4 T T.k5 hp) rfl rfl, rfl⟩
  · unfold putV
    rw [if_pos (by rw [plain_vW]; rfl)]; rfl

noncomputable def rkElt : X := match tln 7 blaw with | .cons (.asg _ _ _ (.comp _ _ _ _ _ _ _ e)) _ => e | _ => xD
theorem rk_elt (hl : ks.length = 5) {u : Nat} (hu : u < 5) : ev K4 rkElt false [some (iv u), some (.lst (ks.map V.int))] = some (iv (rankP ks u)) := by
  have ei : ev K4 (match rkElt with | .bcall _ _ _ (.cons x _) => x | _ => xD) false [some (iv u), some (.lst (ks.map V.int))] = some (.lst ((rng5.filter fun j => decide (ks.getD j 0 < ks.getD u 0) || (decide (ks.getD j 0 = ks.getD u 0) && decide (j < u))).map iv)) := by
    refine ev_comp (evI_rng5 _ _ _ _ _) (cs := [some (iv u), some (.lst (ks.map V.int))]) (caps_cons rfl rfl (caps_cons rfl (plain_ints ks) rfl)) (by decide) ?_
    refine compL_gen iv (fun j => decide (ks.getD j 0 < ks.getD u 0) || (decide (ks.getD j 0 = ks.getD u 0) && decide (j < u))) iv (fun σ => ∃ x, σ = [x, some (iv u), some (.lst (ks.map V.int))]) rng5 _ ?_ ⟨none, rfl⟩
    rintro j hj σ ⟨x, rfl⟩
    refine ⟨[some (iv j), some (iv u), some (.lst (ks.map V.int))], rfl, ⟨_, rfl⟩, ?_, fun _ => ⟨rfl, rfl⟩⟩
    have hj5 := rng5_lt j hj
    have kj : ∀ {p p1 p2 : Nat}, ev K4 (.idx p (.var p1 2) (.var p2 0)) false [some (iv j), some (iv u), some (.lst (ks.map V.int))] = some (.int (ks.getD j 0)) := fun {p p1 p2} => by
      rw [ev_idx (ev_var (v := .lst (ks.map V.int)) rfl) (ev_var (v := iv j) rfl)]
      show atV (ks.map V.int) (j : Int) = _
      exact atV_map (by omega) (getD_int (by omega))
    have ku : ∀ {p p1 p2 : Nat}, ev K4 (.idx p (.var p1 2) (.var p2 1)) false [some (iv j), some (iv u), some (.lst (ks.map V.int))] = some (.int (ks.getD u 0)) := fun {p p1 p2} => by
      rw [ev_idx (ev_var (v := .lst (ks.map V.int)) rfl) (ev_var (v := iv u) rfl)]
      show atV (ks.map V.int) (u : Int) = _
      exact atV_map (by omega) (getD_int (by omega))
    have g1 : unB (ev K4 (.cmp 240041240058 .Lt (.idx 240041240048 (.var 240041240045 2) (.var 240046240047 0)) (.idx 240051240058 (.var 240051240055 2) (.var 240056240057 1))) true [some (iv j), some (iv u), some (.lst (ks.map V.int))]) = some (decide (ks.getD j 0 < ks.getD u 0)) := by
      rw [evE_cmp, kj, ku]; rfl
    have g2 : unB (ev K4 (.cmp 240063240081 .Eq (.idx 240063240070 (.var 240063240067 2) (.var 240068240069 0)) (.idx 240074240081 (.var 240074240078 2) (.var 240079240080 1))) true [some (iv j), some (iv u), some (.lst (ks.map V.int))]) = some (decide (ks.getD j 0 = ks.getD u 0)) := by
      rw [evE_cmp, kj, ku]
      show some (ks.getD j 0 == ks.getD u 0) = _
      congr 1
    have g3 : unB (ev K4 (.cmp 240086240091 .Lt (.var 240086240087 0) (.var 240090240091 1)) true [some (iv j), some (iv u), some (.lst (ks.map V.int))]) = some (decide (j < u)) := by
      show some (decide ((j : Int) < (u : Int))) = _
      simp only [Int.ofNat_lt]
    show unB (ev K4 (.boo _ .Or _ (.boo _ .And _ _)) true _) = _
    rw [evE_boo, g1]
    cases decide (ks.getD j 0 < ks.getD u 0) with
    | true => rfl
    | false =>
      show unB (Option.map V.bool (unB (ev K4 (.boo _ .And _ _) true _))) = _
      rw [evE_boo, g2]
      cases decide (ks.getD j 0 = ks.getD u 0) with
      | false => rfl
      | true =>
        show unB (Option.map V.bool (unB (Option.map V.bool (unB (ev K4 (.cmp 240086240091 .Lt (.var 240086240087 0) (.var 240090240091 1)) true [some (iv j), some (iv u), some (.lst (ks.map V.int))]))))) = _
        rw [g3]; rfl
  show ev K4 (.bcall _ _ "len" (.cons (match rkElt with | .bcall _ _ _ (.cons x _) => x | _ => xD) .nil)) false _ = _
  rw [evE_bcall, evL_cons, ei, evL_nil]
  have hf := filter_len fun j => decide (ks.getD j 0 < ks.getD u 0) || (decide (ks.getD j 0 = ks.getD u 0) && decide (j < u))
  have := bi_len (xs := (rng5.filter fun j => decide (ks.getD j 0 < ks.getD u 0) || (decide (ks.getD j 0 = ks.getD u 0) && decide (j < u))).map iv) (by rw [List.length_map]; omega)
  rw [List.length_map] at this
  exact this

theorem law_ranks (T : LawOK ks k s h ps) (x8 : Option V) : exL K4 (tln 7 blaw) (lSto ks k s h x0 x2 x4 (some (vN ps)) x8 (some (vW k ps)) none none) = exL K4 (tln 8 blaw) (lSto ks k s h x0 x2 x4 (some (vN ps)) x8 (some (vW k ps)) (some (.lst ((rng5.map (rankP ks)).map iv))) none) := by
  refine exL_asg (v := .lst ((rng5.map (rankP ks)).map iv)) ?_ ?_
  · refine ev_comp (evI_rng5 _ _ _ _ _) (cs := [some (.lst (ks.map V.int))]) (caps_cons rfl (plain_ints ks) rfl) (by decide) ?_
    rw [List.map_map]
    refine compL_all iv (fun u => iv (rankP ks u)) (fun σ => ∃ x, σ = [x, some (.lst (ks.map V.int))]) rng5 _ ?_ ⟨none, rfl⟩
    rintro u hu σ ⟨x, rfl⟩
    exact ⟨[some (iv u), some (.lst (ks.map V.int))], rfl, ⟨_, rfl⟩, rfl, rk_elt T.l5 (rng5_lt u hu), rfl⟩
  · unfold putV
    rw [if_pos (by rw [plain_ivs]; rfl)]; rfl

noncomputable def sdElt : X := match tln 8 blaw with | .cons (.asg _ _ _ (.comp _ _ _ _ _ _ _ e)) _ => e | _ => xD
theorem sd_elt {rs : List Nat} (hr : rs.length = 5) {u : Nat} (hu : u < 5) : ev K4 sdElt false [some (iv u), some (.lst (rs.map iv))] = some (.lst (rng5.map fun v => stt (sideP rs u v))) := by
  refine ev_comp (evI_rng5 _ _ _ _ _) (cs := [some (.lst (rs.map iv)), some (iv u)]) (caps_cons rfl (plain_ivs rs) (caps_cons rfl rfl rfl)) (by decide) ?_
  refine compL_all iv (fun v => stt (sideP rs u v)) (fun σ => ∃ x, σ = [x, some (.lst (rs.map iv)), some (iv u)]) rng5 _ ?_ ⟨none, rfl⟩
  rintro v hv σ ⟨x, rfl⟩
  refine ⟨[some (iv v), some (.lst (rs.map iv)), some (iv u)], rfl, ⟨_, rfl⟩, rfl, ?_, rfl⟩
  refine ev_gcall (vs := [.lst (rs.map iv), iv u, iv v]) rfl (up4 (by decide +kernel) (up3 (by decide +kernel) (up2 (by decide +kernel) (side_K1 rs hr u v hu (rng5_lt v hv))))) ?_ rfl
  show (plains (rs.map iv) && _) = true
  rw [show plains (rs.map iv) = true from plain_ivs rs]; rfl

theorem law_sides (rs : List Nat) (hr : rs.length = 5) (x8 x9 : Option V) : exL K4 (tln 8 blaw) (lSto ks k s h x0 x2 x4 (some (vN ps)) x8 x9 (some (.lst (rs.map iv))) none) = exL K4 (tln 9 blaw) (lSto ks k s h x0 x2 x4 (some (vN ps)) x8 x9 (some (.lst (rs.map iv))) (some (vS (sideP rs)))) := by
  refine exL_asg (v := vS (sideP rs)) ?_ ?_
  · refine ev_comp (evI_rng5 _ _ _ _ _) (cs := [some (.lst (rs.map iv))]) (caps_cons rfl (plain_ivs rs) rfl) (by decide) ?_
    refine compL_all iv (fun u => .lst (rng5.map fun v => stt (sideP rs u v))) (fun σ => ∃ x, σ = [x, some (.lst (rs.map iv))]) rng5 _ ?_ ⟨none, rfl⟩
    rintro u hu σ ⟨x, rfl⟩
    exact ⟨[some (iv u), some (.lst (rs.map iv))], rfl, ⟨_, rfl⟩, rfl, sd_elt hr (rng5_lt u hu), plains_map (fun v => stt (sideP rs u v)) (fun _ => rfl) rng5⟩
  · unfold putV
    rw [if_pos (by rw [vS_plain]; rfl)]; rfl

theorem evT_not {K : Kx} {p : Nat} {a : X} {σ : Sto} {b : Bool} (h : ev K a true σ = some (.bool b)) : evT K (.not_ p a) σ = some (!b) := by
  rw [evT_eq]
  rw [evE_not_, h]; rfl

theorem law_end_run (T : LawOK ks k s h ps) (x8 : Option V) : exL K4 (tln 9 blaw) (lSto ks k s h x0 x2 x4 (some (vN ps)) x8 (some (vW k ps)) (some (.lst ((rng5.map (rankP ks)).map iv))) (some (vS (sideP (rng5.map (rankP ks)))))) =
    some (.ret (.bool true), lSto ks k s h x0 x2 x4 (some (vN ps)) x8 (some (vW k ps)) (some (.lst ((rng5.map (rankP ks)).map iv))) (some (vS (sideP (rng5.map (rankP ks)))))) := by
  have hS := vS_plain (sideP (rng5.map (rankP ks)))
  have hR := plain_ivs (rng5.map (rankP ks))
  have hh : (hids.getD h []).length ≤ 20 := (by decide : ∀ h, h < 5 → (hids.getD h []).length ≤ 20) h T.h5
  have s1 : exL K4 (tln 9 blaw) (lSto ks k s h x0 x2 x4 (some (vN ps)) x8 (some (vW k ps)) (some (.lst ((rng5.map (rankP ks)).map iv))) (some (vS (sideP (rng5.map (rankP ks)))))) = exL K4 (tln 10 blaw) (lSto ks k s h x0 x2 x4 (some (vN ps)) x8 (some (vW k ps)) (some (.lst ((rng5.map (rankP ks)).map iv))) (some (vS (sideP (rng5.map (rankP ks)))))) := by
    refine exL_iffF ((evT_not (b := true) ?_).trans rfl) rfl
    refine (ev_gcallT (vs := [iv k, vN ps, vW k ps, vS (sideP (rng5.map (rankP ks)))]) (v := .bool true) rfl (up4 (by decide +kernel) (ways_K3 T.k5 T.tree)) ?_ rfl).trans rfl
    show ((iv k).plain && ((vN ps).plain && ((vW k ps).plain && ((vS (sideP (rng5.map (rankP ks)))).plain && true)))) = true
    rw [plain_vN, plain_vW, hS]; rfl
  have r1 := row_K4 T.row1 hh T.win1
  have s2 : exL K4 (tln 10 blaw) (lSto ks k s h x0 x2 x4 (some (vN ps)) x8 (some (vW k ps)) (some (.lst ((rng5.map (rankP ks)).map iv))) (some (vS (sideP (rng5.map (rankP ks)))))) = exL K4 (tln 11 blaw) (lSto ks k s h x0 x2 x4 (some (vN ps)) x8 (some (vW k ps)) (some (.lst ((rng5.map (rankP ks)).map iv))) (some (vS (sideP (rng5.map (rankP ks)))))) := by
    refine exL_iffF ((evT_not (b := true) ?_).trans rfl) rfl
    rw [← vN_eq] at r1
    refine (ev_gcallT (vs := [vN ps, .lst ((rng5.map (rankP ks)).map iv), vS (sideP (rng5.map (rankP ks))), .lst ([[60]].map stt), iv s, stt (hids.getD h [])]) (v := .bool true) ?_ r1 ?_ rfl).trans rfl
    · have e : ∀ {p q : Nat}, ev K4 (.lst p (.cons (.cstr q "<") .nil)) false (lSto ks k s h x0 x2 x4 (some (vN ps)) x8 (some (vW k ps)) (some (.lst ((rng5.map (rankP ks)).map iv))) (some (vS (sideP (rng5.map (rankP ks)))))) = some (.lst ([[60]].map stt)) := fun {p q} => by
        show (if (plains [V.str true "<"] && decide (1 ≤ lim)) = true then some (V.lst [V.str true "<"]) else none) = _
        rw [show ("<" : Str) = St8 [60] by decide +kernel]; rfl
      show evL K4 (.cons (.var _ 7) (.cons (.var _ 10) (.cons (.var _ 11) (.cons (.lst _ (.cons (.cstr _ "<") .nil)) (.cons (.var _ 5) (.cons (.var _ 6) .nil)))))) _ = _
      rw [evL_cons, ev_var (v := vN ps) rfl, evL_cons, ev_var (v := .lst ((rng5.map (rankP ks)).map iv)) rfl, evL_cons, ev_var (v := vS (sideP (rng5.map (rankP ks)))) rfl, evL_cons, e, evL_cons, ev_var (v := iv s) rfl, evL_cons, ev_var (v := stt (hids.getD h [])) rfl, evL_nil]; rfl
    · show ((vN ps).plain && ((V.lst ((rng5.map (rankP ks)).map iv)).plain && ((vS (sideP (rng5.map (rankP ks)))).plain && _))) = true
      rw [plain_vN, hR, hS]; rfl
  have r2 := row_K4 T.row2 hh T.win2
  rw [s1, s2]
  refine exL_ret ?_ rfl
  rw [← vW_lst] at r2
  refine ev_gcall (vs := [vW k ps, .lst ((rng5.map (rankP ks)).map iv), vS (sideP (rng5.map (rankP ks))), .lst ((insK k).map stt), iv s, stt (hids.getD h [])]) ?_ r2 ?_ rfl
  · have e : ∀ {p q r t1 t2 p1 p2 p3 p4 p5 : Nat}, ev K4 (.ite p (.cmp q .Eq (.var r 3) (.cint t1 4)) (.lst p1 (.cons (.cstr p2 "<") .nil)) (.lst p3 (.cons (.cstr p4 "<") (.cons (.cstr p5 ">") .nil)))) false (lSto ks k s h x0 x2 x4 (some (vN ps)) x8 (some (vW k ps)) (some (.lst ((rng5.map (rankP ks)).map iv))) (some (vS (sideP (rng5.map (rankP ks)))))) = some (.lst ((insK k).map stt)) := fun {p q r t1 t2 p1 p2 p3 p4 p5} => by
      have g : ev K4 (.cmp q .Eq (.var r 3) (.cint t1 4)) true (lSto ks k s h x0 x2 x4 (some (vN ps)) x8 (some (vW k ps)) (some (.lst ((rng5.map (rankP ks)).map iv))) (some (vS (sideP (rng5.map (rankP ks)))))) = some (.bool (decide (k = 4))) := by
        show some (V.bool ((k : Int) == ((4 : Nat) : Int))) = _
        rw [int_beq]
      unfold insK
      by_cases h4 : k = 4
      · rw [if_pos h4]
        rw [decide_eq_true h4] at g
        refine (ev_iteT g).trans ?_
        show (if (plains [V.str true "<"] && decide (1 ≤ lim)) = true then some (V.lst [V.str true "<"]) else none) = _
        rw [show ("<" : Str) = St8 [60] by decide +kernel]; rfl
      · rw [if_neg h4]
        rw [decide_eq_false h4] at g
        refine (ev_iteF g).trans ?_
        show (if (plains [V.str true "<", V.str true ">"] && decide (2 ≤ lim)) = true then some (V.lst [V.str true "<", V.str true ">"]) else none) = _
        rw [show ("<" : Str) = St8 [60] by decide +kernel, show (">" : Str) = St8 [62] by decide +kernel]; rfl
    show evL K4 (.cons (.var _ 9) (.cons (.var _ 10) (.cons (.var _ 11) (.cons (.ite _ (.cmp _ .Eq (.var _ 3) (.cint _ 4)) (.lst _ (.cons (.cstr _ "<") .nil)) (.lst _ (.cons (.cstr _ "<") (.cons (.cstr _ ">") .nil)))) (.cons (.var _ 5) (.cons (.var _ 6) .nil)))))) _ = _
    rw [evL_cons, ev_var (v := vW k ps) rfl, evL_cons, ev_var (v := .lst ((rng5.map (rankP ks)).map iv)) rfl, evL_cons, ev_var (v := vS (sideP (rng5.map (rankP ks)))) rfl, evL_cons, e (t2 := 0), evL_cons, ev_var (v := iv s) rfl, evL_cons, ev_var (v := stt (hids.getD h [])) rfl, evL_nil]; rfl
  · show ((vW k ps).plain && ((V.lst ((rng5.map (rankP ks)).map iv)).plain && ((vS (sideP (rng5.map (rankP ks)))).plain && ((V.lst ((insK k).map stt)).plain && _)))) = true
    rw [plain_vW, hR, hS, plain_stts]; rfl
end

theorem law_run (ns : List Int) (hn : ns.length ≤ 63) {k s h : Nat} {ps : List (List Bool)} (T : LawOK (keysP ns) k s h ps) (hk : (totP ns).fmod 5 = (k : Int)) (hs : ((totP ns).fdiv 5).fmod 10 = (s : Int)) (hi : (((totP ns).fdiv 5).fdiv 10).fmod 5 = (h : Int)) :
    runF K4 nmlaw blaw [.lst (ns.map V.int)] = some (.bool true) := by
  obtain ⟨x8, e5⟩ := law_kinds (x0 := some (scV ns)) (x2 := some (.int (totP ns))) (x4 := some (.int ((totP ns).fdiv 5))) T
  refine runF_of (σ := lSto (keysP ns) k s h (some (scV ns)) (some (.int (totP ns))) (some (.int ((totP ns).fdiv 5))) (some (vN ps)) x8 (some (vW k ps)) (some (.lst ((rng5.map (rankP (keysP ns))).map iv))) (some (vS (sideP (rng5.map (rankP (keysP ns))))))) ?_
  show exL K4 blaw (some (scV ns) :: none :: [none, none, none, none, none, none, none, none, none, none]) = _
  rw [law_keys ns hn, law_total, law_parts ns T.h5 hk hs hi]
  exact (law_names T).trans (e5.trans ((law_written T x8).trans ((law_ranks T x8).trans ((law_sides (rng5.map (rankP (keysP ns))) rfl x8 _).trans (law_end_run T x8)))))
end Mine

namespace Mine
open PySem PySem.W PySem.Calls PyProof.Rows PySem.Builtin PySem.Builtin.Str PySem.StrLaws

/-! the texts of a row as ways: (way, with = or without) -/
noncomputable abbrev Tk := List Bool × Bool
noncomputable def tlE (e : Bool) : List Nat := if e then [61] else []
noncomputable def Wte (k : Nat) (t : Tk) : List Nat := W k t.1 ++ tlE t.2
/-- o: < stands ahead of =, > behind it; else both ahead, > first -/
noncomputable def ltT (o : Bool) : List Bool → Bool → List Bool → Bool → Bool
  | [], e, [], f => !e && f
  | [], e, b :: _, _ => if e then o && !b else true
  | b :: _, _, [], f => if f then !o || b else false
  | a :: p, e, b :: q, f => if a == b then ltT o p e q f else (if o then a else !a)
noncomputable def insT (o : Bool) (x : Tk) : List Tk → List Tk
  | [] => [x]
  | y :: ys => if ltT o x.1 x.2 y.1 y.2 then x :: y :: ys else y :: insT o x ys
noncomputable def sortT (o : Bool) (xs : List Tk) : List Tk := xs.foldl (fun a x => insT o x a) []
noncomputable def ordK (k : Nat) : Bool := k == 4 || k == 9

theorem lt_same : ∀ c x y : List Nat, PySem.Spec.ltCps (c ++ x) (c ++ y) = PySem.Spec.ltCps x y
  | [], _, _ => rfl
  | a :: c, x, y => by
    show (decide (a < a) || (a == a && PySem.Spec.ltCps (c ++ x) (c ++ y))) = _
    rw [lt_same c x y]; simp
theorem lt_cod {k : Nat} (hk : k < 5 ∨ k = 9) (a b : Bool) (x y : List Nat) (h : a ≠ b) : PySem.Spec.ltCps (codK k a ++ x) (codK k b ++ y) = (if ordK k then a else !a) := by
  have : k = 0 ∨ k = 1 ∨ k = 2 ∨ k = 3 ∨ k = 4 ∨ k = 9 := by lia
  rcases this with rfl | rfl | rfl | rfl | rfl | rfl <;> cases a <;> cases b <;> first | exact absurd rfl h | rfl
theorem lt_eqc {k : Nat} (hk : k < 5 ∨ k = 9) (b : Bool) (x : List Nat) : PySem.Spec.ltCps [61] (codK k b ++ x) = (ordK k && !b) := by
  have : k = 0 ∨ k = 1 ∨ k = 2 ∨ k = 3 ∨ k = 4 ∨ k = 9 := by lia
  rcases this with rfl | rfl | rfl | rfl | rfl | rfl <;> cases b <;> rfl
theorem lt_ceq {k : Nat} (hk : k < 5 ∨ k = 9) (b : Bool) (x : List Nat) : PySem.Spec.ltCps (codK k b ++ x) [61] = (!ordK k || b) := by
  have : k = 0 ∨ k = 1 ∨ k = 2 ∨ k = 3 ∨ k = 4 ∨ k = 9 := by lia
  rcases this with rfl | rfl | rfl | rfl | rfl | rfl <;> cases b <;> rfl
theorem lt_nilc {k : Nat} (hk : k < 5 ∨ k = 9) (b : Bool) (x : List Nat) : PySem.Spec.ltCps [] (codK k b ++ x) = true ∧ PySem.Spec.ltCps (codK k b ++ x) [] = false := by
  cases h : codK k b ++ x with
  | nil => exact absurd (List.append_eq_nil_iff.mp h).1 (cod_ne k hk b)
  | cons a r => exact ⟨rfl, rfl⟩
theorem lt_Wt {k : Nat} (hk : k < 5 ∨ k = 9) : ∀ (p : List Bool) (e : Bool) (q : List Bool) (f : Bool), PySem.Spec.ltCps (Wt k p ++ tlE e) (Wt k q ++ tlE f) = ltT (ordK k) p e q f
  | [], e, [], f => by cases e <;> cases f <;> rfl
  | [], e, b :: q, f => by
    rw [Wt_cons, List.append_assoc]
    cases e
    · exact (lt_nilc hk b _).1
    · exact lt_eqc hk b _
  | b :: p, e, [], f => by
    rw [Wt_cons, List.append_assoc]
    cases f
    · exact (lt_nilc hk b _).2
    · exact lt_ceq hk b _
  | a :: p, e, b :: q, f => by
    rw [Wt_cons, Wt_cons]
    simp only [List.append_assoc]
    by_cases h : a = b
    · subst h
      rw [lt_same, lt_same, lt_Wt hk p e q f]
      show _ = (if a == a then ltT (ordK k) p e q f else _)
      rw [if_pos (beq_self_eq_true a)]
    · rw [lt_cod hk a b _ _ h]
      exact (if_neg (by simpa using h)).symm
theorem lt_Wte {k : Nat} (hk : k < 5 ∨ k = 9) (t u : Tk) : PySem.Spec.ltCps (Wte k t) (Wte k u) = ltT (ordK k) t.1 t.2 u.1 u.2 := by
  unfold Wte
  rw [W_eq, W_eq, List.append_assoc, List.append_assoc, lt_same]
  exact lt_Wt hk _ _ _ _
theorem lt_self : ∀ x : List Nat, PySem.Spec.ltCps x x = false
  | [] => rfl
  | a :: x => by
    show (decide (a < a) || (a == a && PySem.Spec.ltCps x x)) = _
    rw [lt_self x]; simp
theorem ltT_tri (o : Bool) : ∀ (p : List Bool) (e : Bool) (q : List Bool) (f : Bool), ltT o p e q f = false → ltT o q f p e = false → p = q ∧ e = f
  | [], e, [], f, h1, h2 => by
    revert h1 h2
    show (!e && f) = false → (!f && e) = false → _
    cases e <;> cases f <;> simp
  | [], e, b :: q, f, h1, h2 => by
    exfalso
    revert h1 h2
    show (if e then o && !b else true) = false → (if e then !o || b else false) = false → False
    cases e <;> cases o <;> cases b <;> simp
  | b :: p, e, [], f, h1, h2 => by
    exfalso
    revert h1 h2
    show (if f then !o || b else false) = false → (if f then o && !b else true) = false → False
    cases f <;> cases o <;> cases b <;> simp
  | a :: p, e, b :: q, f, h1, h2 => by
    have h1' : (if a == b then ltT o p e q f else (if o then a else !a)) = false := h1
    have h2' : (if b == a then ltT o q f p e else (if o then b else !b)) = false := h2
    by_cases h : a = b
    · subst h
      rw [if_pos (beq_self_eq_true a)] at h1' h2'
      obtain ⟨rfl, rfl⟩ := ltT_tri o p e q f h1' h2'
      exact ⟨rfl, rfl⟩
    · exfalso
      rw [if_neg (by simpa using h)] at h1'
      rw [if_neg (by simpa using fun z => h z.symm)] at h2'
      revert h1' h2' h
      cases o <;> cases a <;> cases b <;> simp
theorem Wte_inj {k : Nat} (hk : k < 5 ∨ k = 9) {t u : Tk} (h : Wte k t = Wte k u) : t = u := by
  have h1 := lt_Wte hk t u
  have h2 := lt_Wte hk u t
  rw [h, lt_self] at h1
  rw [h, lt_self] at h2
  obtain ⟨a, b⟩ := ltT_tri (ordK k) t.1 t.2 u.1 u.2 h1.symm h2.symm
  exact Prod.ext a b

theorem insL_W {k : Nat} (hk : k < 5 ∨ k = 9) (x : Tk) : ∀ ys : List Tk, insL (Wte k x) (ys.map (Wte k)) = (insT (ordK k) x ys).map (Wte k)
  | [] => rfl
  | y :: ys => by
    show (if PySem.Spec.ltCps (Wte k x) (Wte k y) then Wte k x :: Wte k y :: ys.map (Wte k) else Wte k y :: insL (Wte k x) (ys.map (Wte k))) = (if ltT (ordK k) x.1 x.2 y.1 y.2 then x :: y :: ys else y :: insT (ordK k) x ys).map (Wte k)
    rw [insL_W hk x ys, lt_Wte hk]
    split <;> rfl
theorem sortL_W {k : Nat} (hk : k < 5 ∨ k = 9) (xs : List Tk) : sortL (xs.map (Wte k)) = (sortT (ordK k) xs).map (Wte k) := by
  have : ∀ (xs a : List Tk), (xs.map (Wte k)).foldl (fun a x => insL x a) (a.map (Wte k)) = (xs.foldl (fun a x => insT (ordK k) x a) a).map (Wte k) := by
    intro xs
    induction xs with
    | nil => intro a; rfl
    | cons x xs ih =>
      intro a
      rw [List.map_cons, List.foldl_cons, List.foldl_cons, insL_W hk]
      exact ih _
  exact this xs []
noncomputable def eqT (a b : Tk) : Bool := a.2 == b.2 && a.1 == b.1
noncomputable def ixT : List Tk → Tk → Option Nat
  | [], _ => none
  | a :: as, x => if eqT a x then some 0 else (ixT as x).map (· + 1)
theorem eqT_iff (a b : Tk) : eqT a b = true ↔ a = b := by
  unfold eqT
  rw [Bool.and_eq_true, beq_iff_eq, beq_iff_eq]
  exact ⟨fun h => Prod.ext h.2 h.1, fun h => by rw [h]; exact ⟨rfl, rfl⟩⟩
theorem ixL_Wte {k : Nat} (hk : k < 5 ∨ k = 9) (x : Tk) : ∀ ts : List Tk, ixL (ts.map (Wte k)) (Wte k x) = ixT ts x
  | [] => rfl
  | a :: as => by
    show (if Wte k a = Wte k x then some 0 else (ixL (as.map (Wte k)) (Wte k x)).map (· + 1)) = (if eqT a x then some 0 else (ixT as x).map (· + 1))
    rw [ixL_Wte hk x as]
    by_cases h : a = x
    · rw [if_pos (by rw [h]), if_pos ((eqT_iff a x).mpr h)]
    · rw [if_neg fun e => h (Wte_inj hk e), if_neg fun e => h ((eqT_iff a x).mp e)]

/-! a row of ways -/
noncomputable def rowT (o : Bool) (ps : List (List Bool)) : List Tk := sortT o (ps.map (fun p => (p, false)) ++ ps.map fun p => (p, true))
noncomputable def opT (R : List Tk) (ps : List (List Bool)) : List Nat := ps.map fun p => (ixT R (p, false)).getD 0
noncomputable def clT (R : List Tk) (ps : List (List Bool)) : List Nat := ps.map fun p => (ixT R (p, true)).getD 0
theorem Wte_f (k : Nat) (p : List Bool) : Wte k (p, false) = W k p := List.append_nil _
theorem Wte_t (k : Nat) (p : List Bool) : Wte k (p, true) = W k p ++ [61] := rfl
theorem rowP_W {k : Nat} (hk : k < 5 ∨ k = 9) (ps : List (List Bool)) : rowP (ps.map (W k)) = (rowT (ordK k) ps).map (Wte k) := by
  unfold rowP rowT
  rw [← sortL_W hk, List.map_append, List.map_map, List.map_map, List.map_map]
  congr 2
  exact List.map_congr_left fun p _ => (Wte_f k p).symm
theorem ix_f {k : Nat} (hk : k < 5 ∨ k = 9) (ps : List (List Bool)) (p : List Bool) : ixL (rowP (ps.map (W k))) (W k p) = ixT (rowT (ordK k) ps) (p, false) := by
  rw [rowP_W hk, ← Wte_f k p, ixL_Wte hk]
theorem ix_t {k : Nat} (hk : k < 5 ∨ k = 9) (ps : List (List Bool)) (p : List Bool) : ixL (rowP (ps.map (W k))) (W k p ++ [61]) = ixT (rowT (ordK k) ps) (p, true) := by
  rw [rowP_W hk, ← Wte_t k p, ixL_Wte hk]
theorem opP_W {k : Nat} (hk : k < 5 ∨ k = 9) (ps : List (List Bool)) : opP (rowP (ps.map (W k))) (ps.map (W k)) = opT (rowT (ordK k) ps) ps := by
  unfold opP opT
  rw [List.map_map]
  exact List.map_congr_left fun p _ => by rw [Function.comp_apply, ix_f hk]
theorem clP_W {k : Nat} (hk : k < 5 ∨ k = 9) (ps : List (List Bool)) : clP (rowP (ps.map (W k))) (ps.map (W k)) = clT (rowT (ordK k) ps) ps := by
  unfold clP clT
  rw [List.map_map]
  exact List.map_congr_left fun p _ => by rw [Function.comp_apply, ix_t hk]

/-! brackets, with something hidden behind one -/
noncomputable def brk1 (b : Bool) : List Nat := if b then [40] else [41]
noncomputable def winT (hid : List Nat) : List Bool → Option Nat → List Nat
  | [], _ => []
  | b :: bs, none => brk1 b ++ winT hid bs none
  | b :: bs, some 0 => brk1 b ++ hid ++ winT hid bs none
  | b :: bs, some (n + 1) => brk1 b ++ winT hid bs (some n)
noncomputable def offT (s p : Nat) : Option Nat := if p ≤ s then some (s - p) else none
noncomputable def inOp (op : List Nat) (p : Nat) : Bool := (ixN op p).isSome
theorem winT_range (op : List Nat) (s : Nat) (hid : List Nat) : ∀ (n p : Nat), ((List.range' p n).map (unitP op s hid)).flatten = winT hid ((List.range' p n).map (inOp op)) (offT s p)
  | 0, p => by cases h : offT s p <;> rfl
  | n + 1, p => by
    have ih := winT_range op s hid n (p + 1)
    rw [List.range'_succ, List.map_cons, List.map_cons, List.flatten_cons, ih]
    unfold unitP
    rcases Nat.lt_trichotomy s p with h | h | h
    · have e1 : offT s p = none := if_neg (Nat.not_le.mpr h)
      have e2 : offT s (p + 1) = none := if_neg (Nat.not_le.mpr (Nat.lt_succ_of_lt h))
      rw [e1, e2, if_neg (Nat.ne_of_gt h), List.append_nil]; rfl
    · subst h
      have e1 : offT s s = some 0 := by unfold offT; rw [if_pos (Nat.le_refl _), Nat.sub_self]
      have e2 : offT s (s + 1) = none := if_neg (Nat.not_succ_le_self s)
      rw [e1, e2, if_pos rfl]; rfl
    · obtain ⟨d, rfl⟩ := Nat.exists_eq_add_of_lt h
      have e1 : offT (p + d + 1) p = some (d + 1) := by unfold offT; rw [if_pos (Nat.le_of_lt h), Nat.add_assoc, Nat.add_sub_cancel_left]
      have e2 : offT (p + d + 1) (p + 1) = some d := by unfold offT; rw [if_pos (show p + 1 ≤ p + d + 1 from h), Nat.add_right_comm p d 1, Nat.add_sub_cancel_left]
      rw [e1, e2, if_neg (Nat.ne_of_lt h), List.append_nil]; rfl
theorem winT_big (hid : List Nat) : ∀ (bs : List Bool) (n : Nat), bs.length ≤ n → winT hid bs (some n) = winT hid bs none
  | [], _, _ => rfl
  | b :: bs, 0, h => by simp at h
  | b :: bs, n + 1, h => by
    show brk1 b ++ winT hid bs (some n) = brk1 b ++ winT hid bs none
    rw [winT_big hid bs n (by simpa using h)]
theorem rng10_win : ∀ size, (size = 2 ∨ size = 4) → ∀ place, place + size ≤ 10 → (rng10.drop place).take size = List.range' place size := by
  rintro size (rfl | rfl) place hp
  · have : ∀ p < 9, (rng10.drop p).take 2 = List.range' p 2 := by decide
    exact this place (by lia)
  · have : ∀ p < 7, (rng10.drop p).take 4 = List.range' p 4 := by decide
    exact this place (by lia)
noncomputable def balGo : Nat → List Bool → Bool
  | n, [] => n == 0
  | n, true :: bs => balGo (n + 1) bs
  | 0, false :: _ => false
  | n + 1, false :: bs => balGo n bs
theorem win_all2 : ∀ b0 b1 : Bool, ∀ h, h < 5 → ∀ o ∈ [none, some 0, some 1], checkP (winT (hids.getD h []) [b0, b1] o) = balGo 0 [b0, b1] := by decide +kernel
theorem win_all4 : ∀ b0 b1 b2 b3 : Bool, ∀ h, h < 5 → ∀ o ∈ [none, some 0, some 1, some 2, some 3], checkP (winT (hids.getD h []) [b0, b1, b2, b3] o) = balGo 0 [b0, b1, b2, b3] := by decide +kernel
end Mine

namespace Mine
open PySem PySem.W PySem.Calls PyProof.Rows PySem.Builtin PySem.Builtin.Str PySem.StrLaws

noncomputable def treeB (ps : List (List Bool)) (sd : Nat → Nat → List Nat) : Bool :=
  (ps.length == 5) && (rng5.all fun u => decide ((pt ps u).length ≤ 10)) &&
  (rng5.all fun u => rng5.all fun v => ((pt ps u == pt ps v) == (u == v)) && ([true, false].all fun b =>
    ((sd u v == [sgn b]) == (pt ps u ++ [b]).isPrefixOf (pt ps v)) &&
    (!(pt ps u ++ [b]).isPrefixOf (pt ps v) || ((rng5.filter fun w => !(sd u w == []) && !(sd w v == [])).isEmpty == (pt ps v == pt ps u ++ [b])))))
noncomputable def rowB (o : Bool) (ps : List (List Bool)) (rs : List Nat) (sd : Nat → Nat → List Nat) (ins : List (List Nat)) : Bool :=
  (fun R => (fun op cl =>
    (ps.all fun p => (ixT R (p, false)).isSome && (ixT R (p, true)).isSome) &&
    (rng5.all fun u => (cl.getD u 0 == op.getD u 0 + (2 * (heldP sd ins u).length + 1)) && (aheadP cl u == dueP rs sd ins u)) &&
    (rng10.all fun p => (mateP op cl p).isSome) &&
    ([2, 4].all fun size => (List.range (11 - size)).all fun place => balGo 0 ((List.range' place size).map (inOp op)) == wholeP (matesP op cl) place size)) (opT R ps) (clT R ps)) (rowT o ps)
noncomputable def psOf (rs : List Nat) : Option (List (List Bool)) := namesP (fun u i => decide (rs.getD u 0 < rs.getD i 0)) 5 []
noncomputable def chkR (rs : List Nat) : Bool := match psOf rs with
  | none => false
  | some ps => treeB ps (sideP rs) && rowB true ps rs (sideP rs) [[60]] && rowB false ps rs (sideP rs) [[60], [62]]


theorem all5 {f : Nat → Bool} (h : (rng5.all f) = true) : ∀ u, u < 5 → f u = true := fun u hu => List.all_eq_true.mp h u (rng5_mem u hu)
theorem rng10_mem : ∀ x < 10, x ∈ rng10 := by decide
theorem beq_nil (l : List Nat) : (!(l == [])) = decide (l ≠ []) := by cases l <;> simp
theorem tree_of {ps : List (List Bool)} {sd : Nat → Nat → List Nat} (h : treeB ps sd = true) : TreeOK ps sd := by
  unfold treeB at h
  rw [Bool.and_eq_true, Bool.and_eq_true] at h
  obtain ⟨⟨h1, h2⟩, h3⟩ := h
  have key : ∀ u, u < 5 → ∀ v, v < 5 → ((pt ps u == pt ps v) == (u == v)) = true ∧ ∀ b, ((sd u v == [sgn b]) == (pt ps u ++ [b]).isPrefixOf (pt ps v)) = true ∧
      (!(pt ps u ++ [b]).isPrefixOf (pt ps v) || ((rng5.filter fun w => !(sd u w == []) && !(sd w v == [])).isEmpty == (pt ps v == pt ps u ++ [b]))) = true := by
    intro u hu v hv
    have := all5 (all5 h3 u hu) v hv
    rw [Bool.and_eq_true] at this
    refine ⟨this.1, fun b => ?_⟩
    have h4 := List.all_eq_true.mp this.2 b (by cases b <;> simp)
    rw [Bool.and_eq_true] at h4
    exact h4
  refine ⟨by simpa using h1, fun u hu => of_decide_eq_true (all5 h2 u hu), ?_, ?_, ?_⟩
  · intro u hu v hv
    have := (key u hu v hv).1
    rw [beq_iff_eq] at this
    rw [Bool.eq_iff_iff, decide_eq_true_eq, decide_eq_true_eq]
    rw [Bool.eq_iff_iff, beq_iff_eq, beq_iff_eq] at this
    exact this
  · intro u hu v hv b
    have := ((key u hu v hv).2 b).1
    rw [beq_iff_eq] at this
    rw [Bool.eq_iff_iff, decide_eq_true_eq, decide_eq_true_eq]
    rw [Bool.eq_iff_iff, beq_iff_eq, List.isPrefixOf_iff_prefix] at this
    exact this
  · intro u hu v hv b hpre
    have := ((key u hu v hv).2 b).2
    rw [List.isPrefixOf_iff_prefix.mpr hpre] at this
    simp only [Bool.not_true, Bool.false_or] at this
    rw [beq_iff_eq] at this
    have e : (fun w => !(sd u w == []) && !(sd w v == [])) = fun w => decide (sd u w ≠ []) && decide (sd w v ≠ []) := by
      funext w
      rw [beq_nil, beq_nil]
    rw [← e, this, Bool.eq_iff_iff, beq_iff_eq, decide_eq_true_eq]

structure RowT (o : Bool) (ps : List (List Bool)) (rs : List Nat) (sd : Nat → Nat → List Nat) (ins : List (List Nat)) : Prop where
  opn : ∀ p ∈ ps, (ixT (rowT o ps) (p, false)).isSome = true
  cls : ∀ p ∈ ps, (ixT (rowT o ps) (p, true)).isSome = true
  held : ∀ u, u < 5 → (clT (rowT o ps) ps).getD u 0 = (opT (rowT o ps) ps).getD u 0 + (2 * (heldP sd ins u).length + 1)
  due : ∀ u, u < 5 → aheadP (clT (rowT o ps) ps) u = dueP rs sd ins u
  mate : ∀ p, p < 10 → (mateP (opT (rowT o ps) ps) (clT (rowT o ps) ps) p).isSome = true
  win : ∀ size, (size = 2 ∨ size = 4) → ∀ place, place + size ≤ 10 → balGo 0 ((List.range' place size).map (inOp (opT (rowT o ps) ps))) = wholeP (matesP (opT (rowT o ps) ps) (clT (rowT o ps) ps)) place size
theorem rowT_of {o : Bool} {ps : List (List Bool)} {rs : List Nat} {sd : Nat → Nat → List Nat} {ins : List (List Nat)} (h : rowB o ps rs sd ins = true) : RowT o ps rs sd ins := by
  unfold rowB at h
  simp only [Bool.and_eq_true] at h
  obtain ⟨⟨⟨h1, h2⟩, h3⟩, h4⟩ := h
  have k1 : ∀ p ∈ ps, (ixT (rowT o ps) (p, false)).isSome = true ∧ (ixT (rowT o ps) (p, true)).isSome = true := fun p hp => Bool.and_eq_true_iff.mp (List.all_eq_true.mp h1 p hp)
  have k2 := fun u hu => Bool.and_eq_true_iff.mp (all5 h2 u hu)
  refine ⟨fun p hp => (k1 p hp).1, fun p hp => (k1 p hp).2, fun u hu => beq_iff_eq.mp (k2 u hu).1, fun u hu => beq_iff_eq.mp (k2 u hu).2, fun p hp => List.all_eq_true.mp h3 p (rng10_mem p hp), ?_⟩
  intro size hs place hp
  have := List.all_eq_true.mp (List.all_eq_true.mp h4 size (by rcases hs with rfl | rfl <;> simp)) place (List.mem_range.mpr (by lia))
  exact beq_iff_eq.mp this

theorem row_of {k : Nat} (hk : k < 5 ∨ k = 9) {ps : List (List Bool)} {rs : List Nat} {sd : Nat → Nat → List Nat} {ins : List (List Nat)} (hp : ps.length = 5) (hsh : ∀ u, u < 5 → (pt ps u).length ≤ 10) (hr : rs.length = 5) (hi : ins.length ≤ 10) (T : RowT (ordK k) ps rs sd ins) : RowOK (ps.map (W k)) rs sd ins := by
  refine ⟨by rw [List.length_map, hp], hr, ?_, hi, ?_, ?_, ?_, ?_, ?_⟩
  · intro l hl
    obtain ⟨p, hp', rfl⟩ := List.mem_map.mp hl
    obtain ⟨u, hu, rfl⟩ := mem_pt hp hp'
    have := hsh u hu
    rcases hk with hk | rfl
    · have := W_len hk (pt ps u); lia
    · have := W9_len (pt ps u); lia
  · intro l hl
    obtain ⟨p, hp', rfl⟩ := List.mem_map.mp hl
    rw [ix_f hk]; exact T.opn p hp'
  · intro l hl
    obtain ⟨p, hp', rfl⟩ := List.mem_map.mp hl
    rw [ix_t hk]; exact T.cls p hp'
  · rw [opP_W hk, clP_W hk]; exact T.held
  · rw [clP_W hk]; exact T.due
  · rw [opP_W hk, clP_W hk]; exact T.mate
theorem win_of {k : Nat} (hk : k < 5 ∨ k = 9) {ps : List (List Bool)} {rs : List Nat} {sd : Nat → Nat → List Nat} {ins : List (List Nat)} {s h : Nat} (hh : h < 5) (T : RowT (ordK k) ps rs sd ins) : ∀ size, (size = 2 ∨ size = 4) → ∀ place, place + size ≤ 10 →
    checkP (winP (opP (rowP (ps.map (W k))) (ps.map (W k))) s (hids.getD h []) place size) = wholeP (matesP (opP (rowP (ps.map (W k))) (ps.map (W k))) (clP (rowP (ps.map (W k))) (ps.map (W k)))) place size := by
  intro size hs place hp
  rw [opP_W hk, clP_W hk, ← T.win size hs place hp]
  unfold winP
  rw [← List.map_drop, ← List.map_take, rng10_win size hs place hp, winT_range]
  rcases hs with rfl | rfl
  · show checkP (winT (hids.getD h []) [inOp _ place, inOp _ (place + 1)] (offT s place)) = balGo 0 [inOp _ place, inOp _ (place + 1)]
    generalize inOp (opT (rowT (ordK k) ps) ps) place = b0
    generalize inOp (opT (rowT (ordK k) ps) ps) (place + 1) = b1
    have hb := winT_big (hids.getD h []) [b0, b1]
    cases ho : offT s place with
    | none => exact win_all2 b0 b1 h hh none (by simp)
    | some d =>
      by_cases hd : 2 ≤ d
      · rw [hb d hd]; exact win_all2 b0 b1 h hh none (by simp)
      · exact win_all2 b0 b1 h hh (some d) (by
          have : d = 0 ∨ d = 1 := by lia
          rcases this with rfl | rfl <;> simp)
  · show checkP (winT (hids.getD h []) [inOp _ place, inOp _ (place + 1), inOp _ (place + 2), inOp _ (place + 3)] (offT s place)) = balGo 0 [inOp _ place, inOp _ (place + 1), inOp _ (place + 2), inOp _ (place + 3)]
    generalize inOp (opT (rowT (ordK k) ps) ps) place = b0
    generalize inOp (opT (rowT (ordK k) ps) ps) (place + 1) = b1
    generalize inOp (opT (rowT (ordK k) ps) ps) (place + 2) = b2
    generalize inOp (opT (rowT (ordK k) ps) ps) (place + 3) = b3
    have hb := winT_big (hids.getD h []) [b0, b1, b2, b3]
    cases ho : offT s place with
    | none => exact win_all4 b0 b1 b2 b3 h hh none (by simp)
    | some d =>
      by_cases hd : 4 ≤ d
      · rw [hb d hd]; exact win_all4 b0 b1 b2 b3 h hh none (by simp)
      · exact win_all4 b0 b1 b2 b3 h hh (some d) (by
          have : d = 0 ∨ d = 1 ∨ d = 2 ∨ d = 3 := by lia
          rcases this with rfl | rfl | rfl | rfl <;> simp)

/-! orders -/
noncomputable def prec (ks : List Int) (j u : Nat) : Bool := decide (ks.getD j 0 < ks.getD u 0) || (decide (ks.getD j 0 = ks.getD u 0) && decide (j < u))
theorem prec_iff (ks : List Int) (j u : Nat) : prec ks j u = true ↔ ks.getD j 0 < ks.getD u 0 ∨ (ks.getD j 0 = ks.getD u 0 ∧ j < u) := by
  unfold prec
  rw [Bool.or_eq_true, Bool.and_eq_true, decide_eq_true_eq, decide_eq_true_eq, decide_eq_true_eq]
theorem filt_le {f g : Nat → Bool} : ∀ l : List Nat, (∀ x ∈ l, f x = true → g x = true) → (l.filter f).length ≤ (l.filter g).length
  | [], _ => Nat.le_refl _
  | x :: l, h => by
    have ih := filt_le l fun y hy => h y (List.mem_cons_of_mem _ hy)
    rw [List.filter_cons, List.filter_cons]
    cases hf : f x with
    | true =>
      rw [h x (List.mem_cons_self ..) hf, if_pos rfl, if_pos rfl, List.length_cons, List.length_cons]
      lia
    | false =>
      rw [if_neg (by decide)]
      split
      · rw [List.length_cons]; lia
      · exact ih
theorem filt_lt {f g : Nat → Bool} : ∀ l : List Nat, (∀ x ∈ l, f x = true → g x = true) → (∃ x ∈ l, f x = false ∧ g x = true) → (l.filter f).length < (l.filter g).length
  | [], _, ⟨_, h, _⟩ => nomatch h
  | x :: l, h, hx => by
    have h' := fun y hy => h y (List.mem_cons_of_mem _ hy)
    rw [List.filter_cons, List.filter_cons]
    by_cases hh : f x = false ∧ g x = true
    · rw [hh.1, hh.2, if_neg (by decide), if_pos rfl, List.length_cons]
      have := filt_le l h'
      lia
    · have hx' : ∃ y ∈ l, f y = false ∧ g y = true := by
        obtain ⟨y, hy, hfg⟩ := hx
        rcases List.mem_cons.mp hy with rfl | hy
        · exact absurd hfg hh
        · exact ⟨y, hy, hfg⟩
      have ih := filt_lt l h' hx'
      cases hf : f x with
      | true =>
        rw [h x (List.mem_cons_self ..) hf, if_pos rfl, if_pos rfl, List.length_cons, List.length_cons]
        lia
      | false =>
        rw [if_neg (by decide)]
        split
        · rw [List.length_cons]; lia
        · exact ih
theorem rank_lt {ks : List Int} {u v : Nat} (hu : u < 5) (h : prec ks u v = true) : rankP ks u < rankP ks v := by
  have h1 := (prec_iff ks u v).mp h
  refine filt_lt (f := fun j => prec ks j u) (g := fun j => prec ks j v) rng5 ?_ ⟨u, rng5_mem u hu, ?_, h⟩
  · intro x _ hx
    have h2 := (prec_iff ks x u).mp hx
    exact (prec_iff ks x v).mpr (by lia)
  · cases hb : prec ks u u with
    | false => rfl
    | true =>
      have := (prec_iff ks u u).mp hb
      lia
theorem rank_5 {ks : List Int} {u : Nat} (hu : u < 5) : rankP ks u < 5 := by
  have := filt_lt (f := fun j => prec ks j u) (g := fun _ => true) rng5 (fun _ _ _ => rfl) ⟨u, rng5_mem u hu, by
    cases hb : prec ks u u with
    | false => rfl
    | true =>
      have := (prec_iff ks u u).mp hb
      lia, rfl⟩
  exact this
theorem rank_ne {ks : List Int} {u v : Nat} (hu : u < 5) (hv : v < 5) (h : u ≠ v) : rankP ks u ≠ rankP ks v := by
  rcases Int.lt_trichotomy (ks.getD u 0) (ks.getD v 0) with z | z | z
  · have := rank_lt hu ((prec_iff ks u v).mpr (Or.inl z)); lia
  · rcases Nat.lt_or_gt_of_ne h with y | y
    · have := rank_lt hu ((prec_iff ks u v).mpr (Or.inr ⟨z, y⟩)); lia
    · have := rank_lt hv ((prec_iff ks v u).mpr (Or.inr ⟨z.symm, y⟩)); lia
  · have := rank_lt hv ((prec_iff ks v u).mpr (Or.inl z)); lia
theorem rank_cmp {ks : List Int} {u i : Nat} (hu : u < 5) (hi : i < u) : decide (ks.getD u 0 < ks.getD i 0) = decide (rankP ks u < rankP ks i) := by
  rw [Bool.eq_iff_iff, decide_eq_true_eq, decide_eq_true_eq]
  constructor
  · intro h
    exact rank_lt hu ((prec_iff ks u i).mpr (Or.inl h))
  · intro h
    refine Classical.byContradiction fun hn => ?_
    have := rank_lt (ks := ks) (u := i) (v := u) (by lia) ((prec_iff ks i u).mpr (by lia))
    lia

theorem wk_congr {f g : Nat → Bool} {ps : List (List Bool)} (h : ∀ i, i < ps.length → f i = g i) : ∀ (n : Nat) (p : List Bool), wk f ps n p = wk g ps n p
  | 0, _ => rfl
  | n + 1, p => by
    unfold wk
    cases hi : ixP ps p with
    | none => rfl
    | some i =>
      show wk f ps n (p ++ [f i]) = wk g ps n (p ++ [g i])
      rw [h i (ixP_lt hi)]
      exact wk_congr h n _
theorem names_congr {f g : Nat → Nat → Bool} (h : ∀ u i, u < 5 → i < u → f u i = g u i) : ∀ (n : Nat) (ps : List (List Bool)), ps.length + n ≤ 5 → namesP f n ps = namesP g n ps
  | 0, _, _ => rfl
  | n + 1, ps, hl => by
    unfold namesP
    rw [wk_congr (f := f ps.length) (g := g ps.length) (fun i hi => h _ i (by lia) hi)]
    cases wk (g ps.length) ps 10 [] with
    | none => rfl
    | some q => exact names_congr h n (ps ++ [q]) (by rw [List.length_append, List.length_singleton]; lia)

/-! all orders -/
noncomputable def chkA (a : Nat) : Bool := rng5.all fun b => b == a || rng5.all fun c => (c == a || c == b) || rng5.all fun d => (d == a || d == b || d == c) || rng5.all fun e => (e == a || e == b || e == c || e == d) || chkR [a, b, c, d, e]
theorem chk0 : chkA 0 = true := by decide +kernel
theorem chk1 : chkA 1 = true := by decide +kernel
theorem chk2 : chkA 2 = true := by decide +kernel
theorem chk3 : chkA 3 = true := by decide +kernel
theorem chk4 : chkA 4 = true := by decide +kernel
theorem chk_all {a b c d e : Nat} (ha : a < 5) (hb : b < 5) (hc : c < 5) (hd : d < 5) (he : e < 5) (hba : b ≠ a) (hca : c ≠ a) (hcb : c ≠ b) (hda : d ≠ a) (hdb : d ≠ b) (hdc : d ≠ c) (hea : e ≠ a) (heb : e ≠ b) (hec : e ≠ c) (hed : e ≠ d) : chkR [a, b, c, d, e] = true := by
  have h : chkA a = true := by
    have : a = 0 ∨ a = 1 ∨ a = 2 ∨ a = 3 ∨ a = 4 := by lia
    rcases this with rfl | rfl | rfl | rfl | rfl
    · exact chk0
    · exact chk1
    · exact chk2
    · exact chk3
    · exact chk4
  have h1 := all5 h b hb
  rw [beq_false_of_ne hba, Bool.false_or] at h1
  have h2 := all5 h1 c hc
  rw [beq_false_of_ne hca, beq_false_of_ne hcb, Bool.false_or, Bool.false_or] at h2
  have h3 := all5 h2 d hd
  rw [beq_false_of_ne hda, beq_false_of_ne hdb, beq_false_of_ne hdc, Bool.false_or, Bool.false_or, Bool.false_or] at h3
  have h4 := all5 h3 e he
  rw [beq_false_of_ne hea, beq_false_of_ne heb, beq_false_of_ne hec, beq_false_of_ne hed, Bool.false_or, Bool.false_or, Bool.false_or, Bool.false_or] at h4
  exact h4

theorem law_ok {ks : List Int} (hl : ks.length = 5) {k s h : Nat} (hk : k < 5) (hh : h < 5) : ∃ ps, LawOK ks k s h ps := by
  have hc : chkR (rng5.map (rankP ks)) = true := chk_all (a := rankP ks 0) (b := rankP ks 1) (c := rankP ks 2) (d := rankP ks 3) (e := rankP ks 4) (rank_5 (by decide)) (rank_5 (by decide)) (rank_5 (by decide)) (rank_5 (by decide)) (rank_5 (by decide))
    (rank_ne (by decide) (by decide) (by decide)) (rank_ne (by decide) (by decide) (by decide)) (rank_ne (by decide) (by decide) (by decide)) (rank_ne (by decide) (by decide) (by decide)) (rank_ne (by decide) (by decide) (by decide)) (rank_ne (by decide) (by decide) (by decide)) (rank_ne (by decide) (by decide) (by decide)) (rank_ne (by decide) (by decide) (by decide)) (rank_ne (by decide) (by decide) (by decide)) (rank_ne (by decide) (by decide) (by decide))
  unfold chkR at hc
  split at hc
  · cases hc
  · rename_i ps hps
    rw [Bool.and_eq_true, Bool.and_eq_true] at hc
    obtain ⟨⟨ht, h1⟩, h2⟩ := hc
    have T := tree_of ht
    have R1 := rowT_of h1
    have R2 := rowT_of h2
    have hps' : psOf (rng5.map (rankP ks)) = namesP (fun u i => decide (ks.getD u 0 < ks.getD i 0)) 5 [] := by
      refine names_congr (fun u i hu hi => ?_) 5 [] (Nat.le_refl _)
      rw [rank_cmp hu hi]
      have g : ∀ x < 5, (rng5.map (rankP ks)).getD x 0 = rankP ks x := fun x hx => by
        rw [List.getD_eq_getElem?_getD, List.getElem?_map, rng5_at hx]; rfl
      rw [g u hu, g i (by lia)]
    refine ⟨ps, hk, hh, hl, by rw [← hps']; exact hps, T, row_of (Or.inr rfl) T.len T.short rfl (by decide) R1, ?_, win_of (Or.inr rfl) hh R1, ?_⟩
    · by_cases h4 : k = 4
      · subst h4
        exact row_of (Or.inl hk) T.len T.short rfl (by decide) R1
      · have ho : ordK k = false := by unfold ordK; simp; lia
        have hi : insK k = [[60], [62]] := if_neg h4
        rw [hi]
        exact row_of (Or.inl hk) T.len T.short rfl (by decide) (by rw [ho]; exact R2)
    · by_cases h4 : k = 4
      · subst h4
        exact win_of (Or.inl hk) hh R1
      · have ho : ordK k = false := by unfold ordK; simp; lia
        exact win_of (Or.inl hk) hh (rs := rng5.map (rankP ks)) (sd := sideP (rng5.map (rankP ks))) (ins := [[60], [62]]) (by rw [ho]; exact R2)

theorem fmod_nat (a : Int) {b : Nat} (hb : 0 < b) : ∃ k : Nat, k < b ∧ a.fmod b = (k : Int) := by
  have hb' : (0 : Int) < (b : Int) := Int.natCast_pos.mpr hb
  have h1 := Int.fmod_nonneg_of_pos a hb'
  have h2 := Int.fmod_lt_of_pos a hb'
  exact ⟨(a.fmod b).toNat, (Int.toNat_lt h1).mpr h2, (Int.toNat_of_nonneg h1).symm⟩
theorem pure_ok (ns : List Int) (hn : ns.length ≤ 63) : runF K4 nmlaw blaw [.lst (ns.map V.int)] = some (.bool true) := by
  obtain ⟨k, hk, ek⟩ := fmod_nat (totP ns) (b := 5) (by decide)
  obtain ⟨s, hs, es⟩ := fmod_nat ((totP ns).fdiv 5) (b := 10) (by decide)
  obtain ⟨h, hh, eh⟩ := fmod_nat (((totP ns).fdiv 5).fdiv 10) (b := 5) (by decide)
  obtain ⟨ps, T⟩ := law_ok (ks := keysP ns) rfl (k := k) (s := s) (h := h) hk hh
  exact law_run ns hn T ek es eh
end Mine

namespace Mine
open PySem PySem.W PySem.Calls PyProof.Rows

noncomputable def shObs (s : Shared) : Bool := match s.heap.get? cStatics with
  | some o => (match o.data with
    | .dict es _ => (nsFind es sharingNotToldKey).isNone
    | _ => false)
  | none => false
noncomputable def ShNone (_ : World) (h : Heap) : Prop := ∃ o es ep, h.get? cStatics = some o ∧ o.data = .dict es ep ∧ nsFind es sharingNotToldKey = none
theorem sh_of (w : World) (s : Shared) (h : shObs s = true) : ShNone w s.heap := by
  unfold shObs at h
  split at h
  · rename_i o ho
    split at h
    · rename_i es ep hd
      exact ⟨o, es, ep, ho, hd, Option.isNone_iff_eq_none.mp h⟩
    · cases h
  · cases h
noncomputable def shHook : Hook := ⟨Bool, shObs, fun _ => true, ShNone, sh_of, fun _ _ _ ⟨o, es, ep, h1, h2, h3⟩ k => ⟨o, es, ep, k _ _ h1, h2, h3⟩⟩
theorem sh_ns {w : World} {h : Heap} (x : ShNone w h) {mc : Str → Option Value} (hn : h.Ns cStatics mc) : mc sharingNotToldKey = none := by
  obtain ⟨o, es, ep, h1, h2, h3⟩ := x
  obtain ⟨o', es', ep', g1, g2, _, g3⟩ := hn
  rw [h1] at g1
  cases g1
  rw [h2] at g2
  cases g2
  rw [← g3, h3]

theorem sta_of {w : World} {q : Program} {lo : List Str} {mean : ExcName → Option Value} {mg mb : Str → Option Value} {h : Heap} (T : Top q lo mean mg mb h) (hrec : recsOf PW = recsOf q) (hval : valOf q "ELLIPSIS_MARKER" = some (.str "..."))
    (hfree : ∀ id, id ∈ (["len", "min", "max", "sum", "sorted", "range", "enumerate"] : List Str) → mg id = none) (hsh : ∀ mc, h.Ns cStatics mc → mc sharingNotToldKey = none) : ∃ B : Sta w h, B.mg = mg :=
  ⟨{ mg := mg
     mb := mb
     g := T.g
     b := T.b
     nolimit := T.nolimit
     fn := by rw [hrec]; exact T.fn
     ell := T.const "ELLIPSIS_MARKER" (.str "...") hval
     free := hfree
     builtins := T.builtins
     share := let ⟨mc, hn, _⟩ := T.nodigits; ⟨mc, hn, hsh mc hn⟩ }, rfl⟩

theorem vr_ints {M : Gh} {P : Params} {h : Heap} : ∀ {vs : List Value} {ns : List Int}, WellAll P h vs (ns.map WData.int) → VRs M h (ns.map V.int) vs
  | [], [], _ => rfl
  | _, n :: ns, x => by
    cases x with
    | cons a b =>
      cases a
      exact ⟨_, _, rfl, ⟨_, rfl⟩, vr_ints b⟩
  | _ :: _, [], x => by cases x

theorem plains_ints : ∀ ns : List Int, plains (ns.map V.int) = true
  | [] => rfl
  | n :: ns => by
    show (true && plains (ns.map V.int)) = true
    rw [plains_ints ns]; rfl

theorem my_ints : ∀ ns : List Int, ofPys (ns.map PyData.int) = ns.map WData.int
  | [] => rfl
  | n :: ns => by
    show WData.int n :: ofPys (ns.map PyData.int) = _
    rw [my_ints ns]; rfl

theorem rm_caller : RM callerA 6 := ⟨rfl, by decide, by decide⟩

/-- the law's call ends and gives True -/
theorem law_end {w : World} {q : Program} {lo : List Str} {mg mb : Str → Option Value} {s₁ : Shared} {l : Addr} {a : Addr} {ns : List Int} {mean : ExcName → Option Value} (T : Top q lo mean mg mb s₁.heap) (hrec : recsOf PW = recsOf q) (hval : valOf q "ELLIPSIS_MARKER" = some (.str "..."))
    (hfree : ∀ id, id ∈ (["len", "min", "max", "sum", "sorted", "range", "enumerate"] : List Str) → mg id = none) (hsh : ∀ mc, s₁.heap.Ns cStatics mc → mc sharingNotToldKey = none)
    (hmg : mg "law" = some (.ref a)) (hg : s₁.gens = #[]) (hw : Well w.params s₁.heap (.ref l) (ofPy (.list (ns.map PyData.int)))) (hn : ns.length ≤ 63) (Q E : Value → Shared → Prop)
    (hq : ∀ s', OldK s₁.heap s'.heap → s'.os = s₁.os → AllBare s'.gens → Q (.bool true) s') : wpAny (model PW w) callerA (call (.ref a) [.ref l]) Q E s₁ := by
  obtain ⟨B, hB⟩ := sta_of (w := w) T hrec hval hfree hsh
  have hw : Well w.params s₁.heap (.ref l) (.list (ofPys (ns.map PyData.int))) := hw
  rw [my_ints] at hw
  cases hw with
  | list he hws =>
    rename_i vs
    refine law_ev B (vs := [.lst (ns.map V.int)]) rfl (pure_ok ns hn) (by rw [hB]; exact hmg) callerA s₁ ⟨noC, fun _ => none⟩ [.ref l] rm_caller ?_ (fun b o e => e) (fun t ht => absurd rfl ht) Al.none ⟨_, [], rfl, ⟨l, vs.toArray, rfl, id, ⟨0, he⟩, vr_ints (by simpa using hws)⟩, rfl⟩ Q E ?_
    · show (plains (ns.map V.int) && true) = true
      rw [plains_ints]; rfl
    · intro x s' M' _ _ a r
      rw [show x = .bool true from r]
      exact hq s' (OldK.of_keep a.st) a.os (a.bare (AllBare.of_eq hg))
end Mine

open PySem PySem.W PyProof.Rows
set_option maxRecDepth 100000 in
set_option maxHeartbeats 0 in
theorem PySem.Challenge.cw_wr0034_01_holds : PySem.Challenge.rw_wr0034_01.Holds := by
  w_on
  o_law
  o_head (Mine.shHook)
  case hw => w_witness2
  intro w s₀ s₁ mg mb G Y fa o pm cd doc dV kV ho hdt hcd hD hmg hg args vals as hpre hlay hrd hwl hlo
  have Y : Mine.ShNone w s₁.heap := Y
  refine Ground.open G ?_
  intro T B D TE TW
  wrow_args hpre hlay hrd hwl hlo
  rename_i hlen hcond
  have hsh : ∀ mc, s₁.heap.Ns cStatics mc → mc sharingNotToldKey = none := fun mc hn => Mine.sh_ns Y hn
  have hfree : ∀ id, id ∈ (["len", "min", "max", "sum", "sorted", "range", "enumerate"] : List Str) → mg id = none := fun id hid =>
    T.free id (by revert id; decide +kernel) (by revert id; decide +kernel) (by revert id; decide +kernel) (by revert id; decide +kernel) (by revert id; decide +kernel)
  refine Mine.law_end T rfl rfl hfree hsh hmg hg (by assumption) (by omega) _ _ fun s' hO ho' hb => ?_
  refine ⟨.inl ⟨_, _, [], rfl, fun _ => rfl, ReadsW.bool true, ?_, fun _ => ⟨List.nodup_nil, fun _ hm => (nomatch hm)⟩⟩, hO, ho', hb⟩
  first | rfl | wrow_post
