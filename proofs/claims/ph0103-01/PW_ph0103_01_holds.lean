import PyProof.Rows.All
import Wide.All
import OpenK.AllK
import Wide.FinOn
import Lean
import PySem.Challenge.RW_ph0103_01
set_option Elab.async false
set_option maxRecDepth 100000
set_option linter.unusedVariables false
set_option linter.unusedSimpArgs false
set_option bootstrap.genMatcherCode false

section
open PySem PySem.W PyProof.Rows
set_option maxRecDepth 100000
set_option maxHeartbeats 1000000
namespace Mine
noncomputable def isFl (s : Stmt) : Bool := s.ctorIdx == 5 && (s.pos.line == 2 || (s.pos.line == 3 || s.pos.line == 4))
noncomputable def q0 : Program := { PySem.Challenge.pw_ph0103_01 with main := { PySem.Challenge.pw_ph0103_01.main with body := PySem.Challenge.pw_ph0103_01.main.body.filter fun s => !(isFl s) } }
noncomputable def glN : List Str := ["ONE_THIRD", "ONE_SIXTH", "TWO_THIRD"]
noncomputable def glL : List (Str × WData) := [("ONE_THIRD", .float 4599676419421066581), ("ONE_SIXTH", .float 4595172819793696085), ("TWO_THIRD", .float 4604180019048437077)]
noncomputable def emp : Obj := { cls := .none, data := .dict #[] 0 }
set_option tactic.hygienic false
theorem left0 : LeftO PySem.Challenge.pw_ph0103_01 q0 glN (fun s => xlAt q0 glL s && recOk [] s) (fun s => s.heap.get? cStatics) (fun zz => some emp) 1422 := fun w => by kernel_rfl
theorem said0 : PySem.Challenge.rw_ph0103_01.wellSaid = true := by decide +kernel
theorem ok0 : (chainsOk q0 && opensWell PySem.Challenge.rw_ph0103_01.row.prog && (frees PySem.Challenge.rw_ph0103_01.row.toRowW && PySem.Challenge.rw_ph0103_01.row.within.isEmpty)) = true := by decide +kernel
theorem bare0 : PySem.Challenge.rw_ph0103_01.row.prog.bare := ⟨rfl, rfl, rfl, rfl, rfl, by decide +kernel⟩
noncomputable def bltAll : List Str := ["len", "sum", "int", "max", "min", "range", "list", "sorted", "enumerate"]
noncomputable def freeIn (p : Program) (loose : List Str) (x : Str) : Bool := !(startupNames.contains x) && (!(loose.contains x) && (!(((recsOf p).map (·.name)).contains x) && (!(((litsOf p).map (·.1)).contains x) && !(((clssOf p loose).map (·.name)).contains x))))
theorem free0 : bltAll.all (freeIn q0 (looseW q0 glN)) = true := by decide +kernel
end Mine
end

section
open PySem PySem.W PyProof.Rows
set_option maxRecDepth 100000
namespace Mine

inductive D where
  | none
  | bool (b : Bool)
  | int (i : Int)
  | flt (x : UInt64)
  | str (s : Str)
  | list (xs : List D)
  | tup (xs : List D)

noncomputable def big : Nat := 1048576
noncomputable def PlainTup (h : Heap) (a : Addr) (items : Array Value) : Prop := ∃ n, h.get? a = some { cls := .type "tuple", data := .seq items n }

noncomputable abbrev Gh := Tok → Option UInt64

set_option tactic.hygienic false
mutual
noncomputable def Rp (h : Heap) (T : Gh) (X : Addr → Prop) : D → Value → Prop
  | .none, v => v = .none
  | .bool b, v => v = .bool b
  | .int i, v => ∃ t, v = .int i t
  | .flt x, v => ∃ t, v = .float x t ∧ T t = some x
  | .str s, v => s.length ≤ big ∧ ∃ t, v = .str s t
  | .list xs, v => xs.length ≤ big ∧ ∃ a vs, v = .ref a ∧ ¬ X a ∧ h.PlainList a vs.toArray ∧ RpL h T X xs vs
  | .tup xs, v => xs.length ≤ big ∧ ∃ a vs, v = .ref a ∧ ¬ X a ∧ PlainTup h a vs.toArray ∧ RpL h T X xs vs
noncomputable def RpL (h : Heap) (T : Gh) (X : Addr → Prop) : List D → List Value → Prop
  | [], vs => vs = []
  | d :: ds, vs => ∃ v vs', vs = v :: vs' ∧ Rp h T X d v ∧ RpL h T X ds vs'
end

theorem RpL.length {h : Heap} {T : Gh} {X : Addr → Prop} : ∀ {ds : List D} {vs : List Value}, RpL h T X ds vs → vs.length = ds.length
  | [], vs, H => by simp only [RpL] at H; subst H; rfl
  | d :: ds, vs, H => by
    simp only [RpL] at H
    obtain ⟨v, vs', rfl, _, H'⟩ := H
    simp [RpL.length H']

mutual
theorem Rp.ext {h h' : Heap} {T T' : Gh} {X X' : Addr → Prop} (hT : ∀ t x, T t = some x → T' t = some x) (hk : ∀ b o, ¬ X b → h.get? b = some o → (o.cls = .type "list" ∨ o.cls = .type "tuple") → (∃ is n, o.data = .seq is n) → ¬ X' b ∧ h'.get? b = some o) : ∀ {d : D} {v : Value}, Rp h T X d v → Rp h' T' X' d v
  | .none, v, H => by simpa only [Rp] using H
  | .bool _, v, H => by simpa only [Rp] using H
  | .int _, v, H => by simpa only [Rp] using H
  | .flt _, v, H => by
    simp only [Rp] at H ⊢
    obtain ⟨t, e, q⟩ := H; exact ⟨t, e, hT _ _ q⟩
  | .str _, v, H => by simpa only [Rp] using H
  | .list xs, v, H => by
    simp only [Rp] at H ⊢
    obtain ⟨hl, a, vs, rfl, hx, ⟨n, ho⟩, hr⟩ := H
    have z := hk a _ hx ho (.inl rfl) ⟨_, _, rfl⟩
    exact ⟨hl, a, vs, rfl, z.1, ⟨n, z.2⟩, RpL.ext hT hk hr⟩
  | .tup xs, v, H => by
    simp only [Rp] at H ⊢
    obtain ⟨hl, a, vs, rfl, hx, ⟨n, ho⟩, hr⟩ := H
    have z := hk a _ hx ho (.inr rfl) ⟨_, _, rfl⟩
    exact ⟨hl, a, vs, rfl, z.1, ⟨n, z.2⟩, RpL.ext hT hk hr⟩
theorem RpL.ext {h h' : Heap} {T T' : Gh} {X X' : Addr → Prop} (hT : ∀ t x, T t = some x → T' t = some x) (hk : ∀ b o, ¬ X b → h.get? b = some o → (o.cls = .type "list" ∨ o.cls = .type "tuple") → (∃ is n, o.data = .seq is n) → ¬ X' b ∧ h'.get? b = some o) : ∀ {ds : List D} {vs : List Value}, RpL h T X ds vs → RpL h' T' X' ds vs
  | [], vs, H => by simpa only [RpL] using H
  | d :: ds, vs, H => by
    simp only [RpL] at H ⊢
    obtain ⟨v, vs', rfl, h1, h2⟩ := H
    exact ⟨v, vs', rfl, Rp.ext hT hk h1, RpL.ext hT hk h2⟩
end

theorem RpL.append {h : Heap} {T : Gh} {X : Addr → Prop} : ∀ {ds es : List D} {vs us : List Value}, RpL h T X ds vs → RpL h T X es us → RpL h T X (ds ++ es) (vs ++ us)
  | [], _, vs, _, H, K => by simp only [RpL] at H; subst H; exact K
  | d :: ds, es, vs, us, H, K => by
    simp only [RpL] at H
    obtain ⟨v, vs', rfl, h1, h2⟩ := H
    simp only [List.cons_append, RpL]
    exact ⟨v, vs' ++ us, rfl, h1, RpL.append h2 K⟩
theorem RpL.get {h : Heap} {T : Gh} {X : Addr → Prop} : ∀ {ds : List D} {vs : List Value} {i : Nat} {d : D}, RpL h T X ds vs → ds[i]? = some d → ∃ v, vs[i]? = some v ∧ Rp h T X d v
  | [], _, _, _, _, e => by cases e
  | d :: ds, vs, 0, d', H, e => by
    simp only [RpL] at H
    obtain ⟨v, vs', rfl, h1, h2⟩ := H
    cases e; exact ⟨v, rfl, h1⟩
  | d :: ds, vs, i + 1, d', H, e => by
    simp only [RpL] at H
    obtain ⟨v, vs', rfl, h1, h2⟩ := H
    exact RpL.get (i := i) h2 (by simpa using e)
theorem RpL.get' {h : Heap} {T : Gh} {X : Addr → Prop} : ∀ {ds : List D} {vs : List Value} {i : Nat} {v : Value}, RpL h T X ds vs → vs[i]? = some v → ∃ d, ds[i]? = some d ∧ Rp h T X d v
  | [], vs, _, _, H, e => by simp only [RpL] at H; subst H; cases e
  | d :: ds, vs, 0, v', H, e => by
    simp only [RpL] at H
    obtain ⟨v, vs', rfl, h1, h2⟩ := H
    cases e; exact ⟨d, rfl, h1⟩
  | d :: ds, vs, i + 1, d', H, e => by
    simp only [RpL] at H
    obtain ⟨v, vs', rfl, h1, h2⟩ := H
    exact RpL.get' (i := i) h2 (by simpa using e)
theorem RpL.take {h : Heap} {T : Gh} {X : Addr → Prop} : ∀ {ds : List D} {vs : List Value} (n : Nat), RpL h T X ds vs → RpL h T X (ds.take n) (vs.take n)
  | _, _, 0, _ => by simp only [List.take_zero, RpL]
  | [], vs, n + 1, H => by simp only [RpL] at H; subst H; simp only [List.take_nil, RpL]
  | d :: ds, vs, n + 1, H => by
    simp only [RpL] at H
    obtain ⟨v, vs', rfl, h1, h2⟩ := H
    simp only [List.take_succ_cons, RpL]
    exact ⟨v, _, rfl, h1, RpL.take n h2⟩
theorem RpL.drop {h : Heap} {T : Gh} {X : Addr → Prop} : ∀ {ds : List D} {vs : List Value} (n : Nat), RpL h T X ds vs → RpL h T X (ds.drop n) (vs.drop n)
  | _, _, 0, H => H
  | [], vs, n + 1, H => by simp only [RpL] at H; subst H; simp only [List.drop_nil, RpL]
  | d :: ds, vs, n + 1, H => by
    simp only [RpL] at H
    obtain ⟨v, vs', rfl, h1, h2⟩ := H
    simpa only [List.drop_succ_cons] using RpL.drop n h2
theorem RpL.cons_iff {h : Heap} {T : Gh} {X : Addr → Prop} {d : D} {ds : List D} {v : Value} {vs : List Value} : RpL h T X (d :: ds) (v :: vs) ↔ Rp h T X d v ∧ RpL h T X ds vs := by
  simp only [RpL]
  constructor
  · rintro ⟨v', vs', e, h1, h2⟩; cases e; exact ⟨h1, h2⟩
  · rintro ⟨h1, h2⟩; exact ⟨v, vs, rfl, h1, h2⟩

set_option tactic.hygienic true
mutual
theorem Rp.inj {h : Heap} {T : Gh} {X : Addr → Prop} : ∀ {d e : D} {v : Value}, Rp h T X d v → Rp h T X e v → d = e
  | .none, e, v, H, K => by cases e <;> simp only [Rp] at H K <;> subst H <;> first | rfl | simp at K
  | .bool _, e, v, H, K => by cases e <;> simp only [Rp] at H K <;> subst H <;> simp_all
  | .int _, e, v, H, K => by cases e <;> simp only [Rp] at H K <;> obtain ⟨t, rfl⟩ := H <;> simp_all
  | .flt _, e, v, H, K => by
    cases e <;> simp only [Rp] at H K <;> obtain ⟨t, rfl, _⟩ := H <;> first | (simp at K; done) | (obtain ⟨t', e', _⟩ := K; cases e'; rfl)
  | .str _, e, v, H, K => by cases e <;> simp only [Rp] at H K <;> obtain ⟨_, t, rfl⟩ := H <;> simp_all
  | .list xs, e, v, H, K => by
    cases e <;> simp only [Rp] at H K <;> obtain ⟨_, a, vs, rfl, _, ⟨n, o⟩, r⟩ := H <;> (try (simp at K; done))
    · rename_i ys
      obtain ⟨_, a', vs', e', _, ⟨n', o'⟩, r'⟩ := K
      cases e'; rw [o] at o'; cases o'
      rw [RpL.inj r r']
    · obtain ⟨_, a', vs', e', _, ⟨n', o'⟩, r'⟩ := K
      cases e'; rw [o] at o'; simp at o'
  | .tup xs, e, v, H, K => by
    cases e <;> simp only [Rp] at H K <;> obtain ⟨_, a, vs, rfl, _, ⟨n, o⟩, r⟩ := H <;> (try (simp at K; done))
    · obtain ⟨_, a', vs', e', _, ⟨n', o'⟩, r'⟩ := K
      cases e'; rw [o] at o'; simp at o'
    · rename_i ys
      obtain ⟨_, a', vs', e', _, ⟨n', o'⟩, r'⟩ := K
      cases e'; rw [o] at o'; cases o'
      rw [RpL.inj r r']
theorem RpL.inj {h : Heap} {T : Gh} {X : Addr → Prop} : ∀ {ds es : List D} {vs : List Value}, RpL h T X ds vs → RpL h T X es vs → ds = es
  | [], [], _, _, _ => rfl
  | [], _ :: _, vs, H, K => by simp only [RpL] at H K; subst H; obtain ⟨_, _, e, _⟩ := K; cases e
  | _ :: _, [], vs, H, K => by simp only [RpL] at H K; subst K; obtain ⟨_, _, e, _⟩ := H; cases e
  | d :: ds, e :: es, vs, H, K => by
    simp only [RpL] at H K
    obtain ⟨v, vs', rfl, h1, h2⟩ := H
    obtain ⟨v', vs'', e', h3, h4⟩ := K
    cases e'
    rw [Rp.inj h1 h3, RpL.inj h2 h4]
end
set_option tactic.hygienic false
theorem RpL.mem {h : Heap} {T : Gh} {X : Addr → Prop} {ds : List D} {vs : List Value} (H : RpL h T X ds vs) {v : Value} (hv : v ∈ vs) : ∃ d ∈ ds, Rp h T X d v := by
  obtain ⟨i, hi, e⟩ := List.mem_iff_getElem.mp hv
  obtain ⟨d, h1, h2⟩ := H.get' (i := i) (v := v) (by rw [List.getElem?_eq_getElem hi, e])
  exact ⟨d, List.mem_of_getElem? h1, h2⟩
theorem RpL.any {h : Heap} {T : Gh} {X : Addr → Prop} (f : D → Bool) (e : Value → Bool) (he : ∀ d v, Rp h T X d v → e v = f d) : ∀ {ds : List D} {vs : List Value}, RpL h T X ds vs → vs.any e = ds.any f ∧ vs.countP e = ds.countP f
  | [], vs, H => by simp only [RpL] at H; subst H; exact ⟨rfl, rfl⟩
  | d :: ds, vs, H => by
    simp only [RpL] at H
    obtain ⟨v, vs', rfl, h1, h2⟩ := H
    have ih := RpL.any f e he h2
    rw [List.any_cons, List.any_cons, List.countP_cons, List.countP_cons, ih.1, ih.2, he _ _ h1]
    exact ⟨rfl, rfl⟩

structure Cx where
  prog : Program
  w : World
  mg : Str → Option Value
  mb : Str → Option Value
  defs : List DefRec
  cT : Addr
  P : Addr
  line : Nat
  col : Nat
  qual : Str
  lsc : Scope

structure Gd (c : Cx) (h : Heap) : Prop where
  g : h.Ns mainGlobals c.mg
  b : h.Ns builtinsNs c.mb
  nolimit : h.NoLimit
  booked : NoneBooked h
  fn : ∀ d ∈ c.defs, ∃ a o pm code doc, c.mg d.name = some (.ref a) ∧ h.get? a = some o ∧ o.data = .func (Calls.docDef d.name d.params d.body d.scope pm code doc) ∧ h.CodeRec code d.name
  txt : ∃ a o fd, c.mg "_law_text" = some (.ref a) ∧ h.get? a = some o ∧ o.data = .func fd ∧ fd.code = .ref c.cT
  hd : CodeHd h c.cT c.P
  tab : ∃ ps : Array Value, h.get? c.P = some (tabObj ps) ∧ (ps = #[] ∨ ∃ c', ps = #[rawInt c.line, rawInt c.col, .ref c'] ∧ h.CodeRec (.ref c') c.qual)
  bmain : ∃ bm ob, c.mg "__builtins__" = some (.ref bm) ∧ bm ≠ builtinsNs ∧ h.get? bm = some ob ∧ ob.cls = .type "module" ∧ ob.dict = some builtinsNs ∧ ob.data = .plain

structure Ok (c : Cx) (s : Shared) (T : Gh) : Prop where
  gd : Gd c s.heap
  pos : 0 < s.toks
  tv : ∀ t x, T t = some x → t < s.toks ∧ t ≠ 0

structure Step (c : Cx) (s : Shared) (T : Gh) (s' : Shared) (T' : Gh) : Prop where
  keep : ∀ b o, b ≠ c.P → s.heap.get? b = some o → s'.heap.get? b = some o
  tk : s.toks ≤ s'.toks
  le : ∀ t x, T t = some x → T' t = some x
  ok : Ok c s T → Ok c s' T'
  os : s'.os = s.os
  gsz : s.gens.size ≤ s'.gens.size
  gold : ∀ i, i < s.gens.size → s'.gens[i]? = s.gens[i]?
  gnew : ∀ i x, s.gens.size ≤ i → s'.gens[i]? = some x → x = .finished

theorem noGen {gens : Array GenState} {i : Nat} {x : GenState} (h : gens.size ≤ i) (e : gens[i]? = some x) : x = .finished := by
  rw [Array.getElem?_eq_none h] at e; cases e
theorem Step.refl (c : Cx) (s : Shared) (T : Gh) : Step c s T s T := ⟨fun zz zz zz e => e, Nat.le_refl _, fun zz zz e => e, id, rfl, Nat.le_refl _, fun zz zz => rfl, fun zz zz => noGen⟩
theorem Step.trans {c : Cx} {s₁ s₂ s₃ : Shared} {T₁ T₂ T₃ : Gh} (x : Step c s₁ T₁ s₂ T₂) (y : Step c s₂ T₂ s₃ T₃) : Step c s₁ T₁ s₃ T₃ := by
  refine ⟨fun b o hb e => y.keep b o hb (x.keep b o hb e), Nat.le_trans x.tk y.tk, fun t z e => y.le _ _ (x.le _ _ e), fun g => y.ok (x.ok g), y.os.trans x.os, Nat.le_trans x.gsz y.gsz,
    fun i hi => (y.gold i (Nat.lt_of_lt_of_le hi x.gsz)).trans (x.gold i hi), fun i z hi e => ?_⟩
  by_cases h : i < s₂.gens.size
  · rw [y.gold i h] at e; exact x.gnew i z hi e
  · exact y.gnew i z (Nat.le_of_not_lt h) e

noncomputable def Al (c : Cx) (h : Heap) (X : Addr → Prop) : Prop := ∀ x, X x → x ≠ c.P ∧ ∃ o, h.get? x = some o
theorem Al.lt {c : Cx} {h : Heap} {X : Addr → Prop} (x : Al c h X) : ¬ X h.objs.size := fun q => let ⟨_, _, e⟩ := x _ q; Nat.lt_irrefl _ (Heap.lt_size e)
theorem Step.al {c : Cx} {s s' : Shared} {T T' : Gh} {X : Addr → Prop} (x : Step c s T s' T') (h : Al c s.heap X) : Al c s'.heap X := fun b hb => let ⟨h1, o, e⟩ := h b hb; ⟨h1, o, x.keep b o h1 e⟩

theorem Ns.but {h h' : Heap} {a P : Addr} {m : Str → Option Value} {ps : Array Value} (x : h.Ns a m) (hP : h.get? P = some (tabObj ps)) (hk : ∀ b o, b ≠ P → h.get? b = some o → h'.get? b = some o) : h'.Ns a m := by
  obtain ⟨o, es, ep, e, hd, r⟩ := x
  refine ⟨o, es, ep, hk a o (fun q => ?_) e, hd, r⟩
  subst q; rw [hP] at e; cases e; cases hd

theorem Gd.keeps {c : Cx} {h h' : Heap} (g : Gd c h) (hk : ∀ b o, h.get? b = some o → h'.get? b = some o) : Gd c h' := by
  obtain ⟨g1, g2, g3, g4, g5, g6, g7, g8, g9⟩ := g
  refine ⟨g1.keeps hk, g2.keeps hk, ?_, ?_, fun d hd => ?_, ?_, g7.keeps hk, ?_, ?_⟩
  · obtain ⟨mc, q1, q2⟩ := g3; exact ⟨mc, q1.keeps hk, q2⟩
  · obtain ⟨mc, q1, q2⟩ := g4; exact ⟨mc, q1.keeps hk, q2⟩
  · obtain ⟨a, o, pm, code, doc, q1, q2, q3, q4⟩ := g5 d hd; exact ⟨a, o, pm, code, doc, q1, hk _ _ q2, q3, q4.keeps hk⟩
  · obtain ⟨a, o, fd, q1, q2, q3, q4⟩ := g6; exact ⟨a, o, fd, q1, hk _ _ q2, q3, q4⟩
  · obtain ⟨ps, q1, q2⟩ := g8
    refine ⟨ps, hk _ _ q1, q2.imp id ?_⟩
    rintro ⟨c', e, r⟩; exact ⟨c', e, r.keeps hk⟩
  · obtain ⟨bm, ob, q1, q2, q3, q4⟩ := g9; exact ⟨bm, ob, q1, q2, hk _ _ q3, q4⟩

theorem Step.of_push {c : Cx} {s : Shared} {T : Gh} {h' : Heap} {t : Nat} (hk : ∀ b o, s.heap.get? b = some o → h'.get? b = some o) (ht : s.toks ≤ t) : Step c s T { s with heap := h', toks := t } T :=
  ⟨fun b o zz e => hk b o e, ht, fun zz zz e => e, fun g => ⟨g.gd.keeps hk, Nat.lt_of_lt_of_le g.pos ht, fun t' x e => ⟨Nat.lt_of_lt_of_le (g.tv t' x e).1 ht, (g.tv t' x e).2⟩⟩, rfl, Nat.le_refl _, fun zz zz => rfl, fun zz zz => noGen⟩

theorem Step.tok {c : Cx} {s : Shared} {T : Gh} {t : Nat} (ht : s.toks ≤ t) : Step c s T { s with toks := t } T := Step.of_push (fun zz zz e => e) ht
theorem Step.alloc {c : Cx} {s : Shared} {T : Gh} (o : Obj) : Step c s T { s with heap := s.heap.push o } T := by
  have := Step.of_push (c := c) (s := s) (T := T) (h' := s.heap.push o) (t := s.toks) (fun b o' e => Heap.get?_push_of_some _ e) (Nat.le_refl _)
  exact this
noncomputable def Gh.add (T : Gh) (t : Tok) (x : UInt64) : Gh := fun u => if u = t then some x else T u
set_option tactic.hygienic true
theorem Step.float {c : Cx} {s : Shared} {T : Gh} (g : Ok c s T) (x : UInt64) : Step c s T { s with toks := s.toks + 1 } (T.add s.toks x) := by
  refine ⟨fun b o zz e => e, Nat.le_succ _, fun t z e => ?_, fun g => ⟨g.gd, Nat.succ_pos _, fun t' z e => ?_⟩, rfl, Nat.le_refl _, fun zz zz => rfl, fun zz zz => noGen⟩
  · have := (g.tv t z e).1
    unfold Gh.add; rw [if_neg (Nat.ne_of_lt this)]; exact e
  · unfold Gh.add at e
    split at e
    · rename_i h; subst h; exact ⟨Nat.lt_succ_self _, Nat.ne_of_gt g.pos⟩
    · exact ⟨Nat.lt_succ_of_lt (g.tv t' z e).1, (g.tv t' z e).2⟩

set_option tactic.hygienic false
theorem Gd.notP {c : Cx} {h : Heap} (g : Gd c h) {b : Addr} {o : Obj} (e : h.get? b = some o) (hc : o.cls ≠ .none) : b ≠ c.P := by
  obtain ⟨ps, q, _⟩ := g.tab
  rintro rfl
  rw [q] at e; cases e; exact hc rfl

theorem Step.rp {c : Cx} {s s' : Shared} {T T' : Gh} (g : Gd c s.heap) (x : Step c s T s' T') {X : Addr → Prop} {d : D} {v : Value} (H : Rp s.heap T X d v) : Rp s'.heap T' X d v :=
  H.ext x.le fun b o hb e hc zz => ⟨hb, x.keep b o (g.notP e (by rcases hc with h | h <;> rw [h] <;> intro q <;> cases q)) e⟩
theorem Step.rpL {c : Cx} {s s' : Shared} {T T' : Gh} (g : Gd c s.heap) (x : Step c s T s' T') {X : Addr → Prop} {d : List D} {v : List Value} (H : RpL s.heap T X d v) : RpL s'.heap T' X d v :=
  H.ext x.le fun b o hb e hc zz => ⟨hb, x.keep b o (g.notP e (by rcases hc with h | h <;> rw [h] <;> intro q <;> cases q)) e⟩

noncomputable def Res (c : Cx) (s : Shared) (T : Gh) (X : Addr → Prop) (d : D) : Value → Shared → Prop := fun v s' => ∃ T', Step c s T s' T' ∧ Rp s'.heap T' X d v
noncomputable def noE : Value → Shared → Prop := fun zz zz => False
theorem leaf {c : Cx} {A : Around} {s : Shared} {α : Type} {t : Sem α} {Q : α → Shared → Prop} (h : wpAny (model c.prog c.w) A t (fun v s' => s.toks ≤ s'.toks → Q v s') noE s) :
    wpAny (model c.prog c.w) A t Q noE s := wpAny_with_toks (Nat.le_refl _) (wpAny_mono h (fun zz zz x => x) fun zz zz x => x.elim)

noncomputable abbrev Sig := Str → Option D
noncomputable def Bound (h : Heap) (env : Env) (x : Str) (v : Value) : Prop :=
  (env.kindOf x = some .local ∧ ∃ m, h.Ns env.locals m ∧ m x = some v) ∨
  ((env.kindOf x = some .cell ∨ env.kindOf x = some .free) ∧ ∃ a, env.cells.lookup x = some a ∧ h.IsCell a (some v))
structure EnvOK (env : Env) (sc : Scope) : Prop where
  kind : env.scope.kind = .function
  glob : env.globals = mainGlobals
  bltn : env.builtins = builtinsNs
  gk : ∀ f, sc.names.lookup f = some .globalImplicit → env.kindOf f = some .globalImplicit
  loc : ∀ f, sc.names.lookup f = some .local → env.kindOf f = some .local
  ce : ∀ f, sc.names.lookup f = some .cell ∨ sc.names.lookup f = some .free → (env.kindOf f = some .cell ∨ env.kindOf f = some .free) ∧ ∃ a, env.cells.lookup f = some a
  cel : ∀ f, sc.names.lookup f = some .cell → env.kindOf f = some .cell
  low : 3 < env.locals
  apart : ∀ f f' a, env.cells.lookup f = some a → env.cells.lookup f' = some a → f = f'
structure FrameOK (h : Heap) (T : Gh) (env : Env) (sc : Scope) (σ : Sig) (X : Addr → Prop) : Prop where
  eok : EnvOK env sc
  ns : ∃ m, h.Ns env.locals m
  cells : ∀ f a, env.cells.lookup f = some a → ∃ v, h.IsCell a v
  has : ∀ x d, σ x = some d → ∃ v, Bound h env x v ∧ Rp h T X d v

theorem IsCell.but {h h' : Heap} {a P : Addr} {v : Option Value} {ps : Array Value} (x : h.IsCell a v) (hP : h.get? P = some (tabObj ps)) (hk : ∀ b o, b ≠ P → h.get? b = some o → h'.get? b = some o) : h'.IsCell a v := by
  obtain ⟨o, e, hd⟩ := x
  refine ⟨o, hk a o (fun q => ?_) e, hd⟩
  subst q; rw [hP] at e; cases e; cases hd
theorem Bound.step {c : Cx} {s s' : Shared} {T T' : Gh} (g : Gd c s.heap) (x : Step c s T s' T') {env : Env} {n : Str} {v : Value} (H : Bound s.heap env n v) : Bound s'.heap env n v := by
  obtain ⟨ps, hP, _⟩ := g.tab
  rcases H with ⟨h1, m, h2, h3⟩ | ⟨h1, a, h2, h3⟩
  · exact .inl ⟨h1, m, Ns.but h2 hP x.keep, h3⟩
  · exact .inr ⟨h1, a, h2, IsCell.but h3 hP x.keep⟩
theorem FrameOK.step {c : Cx} {s s' : Shared} {T T' : Gh} (g : Gd c s.heap) (x : Step c s T s' T') {env : Env} {sc : Scope} {σ : Sig} {X : Addr → Prop} (F : FrameOK s.heap T env sc σ X) : FrameOK s'.heap T' env sc σ X := by
  obtain ⟨ps, hP, _⟩ := g.tab
  exact ⟨F.eok, let ⟨m, h⟩ := F.ns; ⟨m, Ns.but h hP x.keep⟩, fun f a e => let ⟨v, h⟩ := F.cells f a e; ⟨v, IsCell.but h hP x.keep⟩, fun n d e => let ⟨v, h1, h2⟩ := F.has n d e; ⟨v, h1.step g x, x.rp g h2⟩⟩

structure Room (A : Around) (k : Nat) : Prop where
  handled : A.handled = none
  depth : A.depth + k ≤ 900
  units : A.units + 20 * k ≤ 9000
theorem Room.in1 {A : Around} {k : Nat} (r : Room A (k + 1)) : Room A.in1 k := ⟨r.1, by have := r.2; show A.depth + k ≤ 900; omega, by have := r.3; show A.units + 1 + 20 * k ≤ 9000; omega⟩
theorem Room.deeper {A : Around} {k : Nat} {env : Env} (r : Room A (k + 1)) : Room (A.deeper env) k := ⟨r.1, by have := r.2; show A.depth + 1 + k ≤ 900; omega, by have := r.3; show A.units + 3 + 20 * k ≤ 9000; omega⟩
theorem Room.le {A : Around} {k j : Nat} (r : Room A k) (h : j ≤ k) : Room A j := ⟨r.1, by have := r.2; omega, by have := r.3; omega⟩
theorem Room.lim {A : Around} {k : Nat} (r : Room A k) : A.depth < recursionLimit := by have := r.2; show A.depth < 1000; omega
theorem Room.cl {A : Around} {k : Nat} (r : Room A k) : A.units < cLine := by have := r.3; show A.units < 9900; omega

end Mine
end

section
open PySem PySem.W PyProof.Rows
set_option maxRecDepth 100000
namespace Mine

noncomputable def cstD : Const → Option D
  | .none => some .none
  | .bool b => some (.bool b)
  | .int i => some (.int i)
  | .float x => some (.flt x)
  | .str s => if s.length ≤ big then some (.str s) else none
  | _ => none

noncomputable def strD (s : Str) : Option D := if s.length ≤ big then some (.str s) else none
noncomputable def listD (xs : List D) : Option D := if xs.length ≤ big then some (.list xs) else none
noncomputable def tupD (xs : List D) : Option D := if xs.length ≤ big then some (.tup xs) else none
noncomputable def smallI (a : Int) : Bool := decide (-4611686018427387904 < a) && decide (a < 4611686018427387904)

noncomputable def binD : Operator → D → D → Option D
  | .Add, .int a, .int b => some (.int (a + b))
  | .Sub, .int a, .int b => some (.int (a - b))
  | .Mult, .int a, .int b => if smallI a && smallI b then some (.int (a * b)) else none
  | .FloorDiv, .int a, .int b => if b == 0 || !(smallI b) then none else some (.int (a.fdiv b))
  | .Mod, .int a, .int b => if b == 0 then none else some (.int (a.fmod b))
  | .Div, .int a, .int b =>
    if b == 0 || Float64.isInf (Float64.ofFrac (decide (a < 0) != decide (b < 0)) a.natAbs b.natAbs) then none
    else some (.flt (Float64.ofFrac (decide (a < 0) != decide (b < 0)) a.natAbs b.natAbs))
  | .Pow, .int a, .int b => if a == 2 && b == 20 then some (.int 1048576) else none
  | .Add, .flt a, .flt b => some (.flt (Float64.add a b))
  | .Sub, .flt a, .flt b => some (.flt (Float64.sub a b))
  | .Mult, .flt a, .flt b => some (.flt (Float64.mul a b))
  | .Div, .flt a, .flt b => if Float64.isZero b then none else some (.flt (Float64.div a b))
  | .Mod, .flt a, .flt b => if Float64.isZero b then none else some (.flt (Float64.divmod a b).2)
  | .Mult, .flt a, .int b => if smallI b then some (.flt (Float64.mul a (Float64.ofInt b))) else none
  | .Sub, .flt a, .int b => if smallI b then some (.flt (Float64.sub a (Float64.ofInt b))) else none
  | .Mult, .int a, .flt b => if smallI a then some (.flt (Float64.mul (Float64.ofInt a) b)) else none
  | .Div, .flt a, .int b => if smallI b && !(Float64.isZero (Float64.ofInt b)) then some (.flt (Float64.div a (Float64.ofInt b))) else none
  | .Add, .str a, .str b => strD (a ++ b)
  | .Add, .list a, .list b => listD (a ++ b)
  | .Mult, .str a, .int b => if 0 < b && b ≤ 64 && a.length ≤ 64 then some (.str (Txt.mul a b)) else none
  | _, _, _ => none

noncomputable def eqLW (f : D → D → Option Bool) : List D → List D → Option Bool
  | a :: as, b :: bs => match f a b, eqLW f as bs with
    | some x, some y => some (x && y)
    | _, _ => none
  | _, _ => some true
noncomputable def eqN : Nat → D → D → Option Bool
  | 0, _, _ => none
  | n + 1, x, y => match x, y with
    | .int a, .int b => some (a == b)
    | .flt a, .flt b => if Float64.isNaN a || Float64.isNaN b then none else some (Float64.cmp a b == some Ordering.eq)
    | .str a, .str b => some (a == b)
    | .list a, .list b => if a.length == b.length then eqLW (eqN n) a b else some false
    | .tup a, .tup b => if a.length == b.length then eqLW (eqN n) a b else none
    | _, _ => none
noncomputable def eqD (a b : D) : Option Bool := eqN 4 a b

noncomputable def inD (x : D) : List D → Option Bool
  | [] => some false
  | y :: ys => match eqD y x, inD x ys with
    | some a, some b => some (a || b)
    | _, _ => none
noncomputable def cntD (x : D) : List D → Option Nat
  | [] => some 0
  | y :: ys => match eqD y x, cntD x ys with
    | some a, some b => some (if a then b + 1 else b)
    | _, _ => none

noncomputable def cmpD : CmpOp → D → D → Option Bool
  | .Eq, a, b => eqD a b
  | .NotEq, a, b => (eqD a b).map (!·)
  | .Lt, .int a, .int b => some (decide (a < b))
  | .LtE, .int a, .int b => some (decide (a ≤ b))
  | .Gt, .int a, .int b => some (decide (a > b))
  | .Lt, .flt a, .flt b => some (Float64.cmp a b == some Ordering.lt)
  | .LtE, .flt a, .flt b => some (Float64.cmp a b == some Ordering.lt || Float64.cmp a b == some Ordering.eq)
  | .In, x, .list ys => inD x ys
  | .NotIn, .str a, .str b => some (!Txt.contains b a)
  | _, _, _ => none

noncomputable def idxD : D → D → Option D
  | .list xs, .int k => if 0 ≤ k then xs[k.toNat]? else none
  | .tup xs, .int k => if 0 ≤ k then xs[k.toNat]? else none
  | .str s, .int k => if 0 ≤ k then (s.cps[k.toNat]?).map (fun ch => D.str ⟨#[ch]⟩) else none
  | _, _ => none

noncomputable def bndD : Option D → Option (Option Int)
  | none => some none
  | some (.int k) => if smallI k then some (some k) else none
  | _ => none
noncomputable def loN (n : Nat) (lo : Option Int) : Nat := lo.elim 0 (clipAt n)
noncomputable def hiN (n : Nat) (hi : Option Int) : Nat := hi.elim n (clipAt n)
noncomputable def sliceD : D → Option Int → Option Int → Option D
  | .list xs, lo, hi => some (.list ((xs.drop (loN xs.length lo)).take (hiN xs.length hi - loN xs.length lo)))
  | .str s, none, some (-1) => some (.str ⟨(s.cps.toList.take (s.length - 1)).toArray⟩)
  | _, _, _ => none

noncomputable def intsD : List D → Option (List Int)
  | [] => some []
  | .int i :: r => (intsD r).map (i :: ·)
  | _ => none
noncomputable def strsD : List D → Option (List Str)
  | [] => some []
  | .str s :: r => (strsD r).map (s :: ·)
  | _ => none
noncomputable def simpleE (e : Expr) : Bool := e.ctorIdx == 23 || e.ctorIdx == 19

noncomputable def rngD (a b : Int) : List D := (List.range (b - a).toNat).map fun (i : Nat) => D.int (a + i)

noncomputable def max3 (a b c : UInt64) : UInt64 :=
  let m := if Float64.cmp b a == some Ordering.gt then b else a
  if Float64.cmp c m == some Ordering.gt then c else m
noncomputable def min3 (a b c : UInt64) : UInt64 :=
  let m := if Float64.cmp b a == some Ordering.lt then b else a
  if Float64.cmp c m == some Ordering.lt then c else m

noncomputable def bltNames : List Str := ["len", "sum", "int", "max", "min"]
noncomputable def bltD (f : Str) (args : List D) : Option D :=
  if f == "len" then (match args with
    | [.list xs] => some (.int xs.length)
    | [.str s] => some (.int s.length)
    | _ => none)
  else if f == "sum" then (match args with
    | [.list xs] => (intsD xs).map fun l => .int l.sum
    | _ => none)
  else if f == "int" then (match args with
    | [.flt x] => (match Float64.decode x with | .fin sg m e => some (.int (Float64.truncOf sg m e)) | _ => none)
    | _ => none)
  else if f == "max" then (match args with
    | [.flt a, .flt b, .flt c] => some (.flt (max3 a b c))
    | _ => none)
  else if f == "min" then (match args with
    | [.flt a, .flt b, .flt c] => some (.flt (min3 a b c))
    | _ => none)
  else none

noncomputable def methD (o : D) (name : Str) (args : List D) : Option D :=
  if name == "join" then (match o, args with
    | .str s, [.list xs] => (strsD xs).bind fun l => if JoinOk s l then strD (Txt.join s l) else none
    | _, _ => none)
  else if name == "count" then (match o, args with
    | .str s, [.str t] => some (.int (Txt.count s t))
    | .list xs, [x] => match cntD x xs with
      | some n => some (.int (n : Int))
      | none => none
    | _, _ => none)
  else if name == "find" then (match o, args with
    | .str s, [.str t] => some (.int (Txt.find s t))
    | _, _ => none)
  else none

noncomputable def insK (p : Int × D) : List (Int × D) → List (Int × D)
  | [] => [p]
  | q :: r => if p.1 ≤ q.1 then p :: q :: r else q :: insK p r
noncomputable def srtK : List (Int × D) → List (Int × D)
  | [] => []
  | p :: r => insK p (srtK r)

noncomputable def keyAt (j : Int) : D → Option Int
  | .list ys => match idxD (.list ys) (.int j) with
    | some (.int q) => some (-q)
    | _ => none
  | _ => none
noncomputable def keysD (f : D → Option Int) : List D → Option (List (Int × D))
  | [] => some []
  | d :: ds => match f d with
    | some k => (keysD f ds).map ((k, d) :: ·)
    | none => none
noncomputable def lamOk (lsc : Scope) (x : Str) : Bool :=
  x == "one" && lsc.kind == .function && (lsc.names.lookup x == some .local) && !lsc.isGenerator && !lsc.isCoroutine && (lsc.names.all fun y => (y.2 != .cell) && (y.2 != .free)) && !(x == "__debug__" || x == "__classdict__")
noncomputable def Sig.set (σ : Sig) (x : Str) (d : D) : Sig := fun y => if y = x then some d else σ y
noncomputable def setAll : Sig → List Str → List D → Option Sig
  | σ, [], [] => some σ
  | σ, x :: xs, d :: ds => setAll (Sig.set σ x d) xs ds
  | _, _, _ => none
noncomputable def namesOf : List Expr → Option (List Str)
  | [] => some []
  | .Name x _ :: r => (namesOf r).map (x :: ·)
  | _ => none
noncomputable def stOk (sc : Scope) (x : Str) : Bool := sc.names.lookup x == some .local || sc.names.lookup x == some .cell
noncomputable def bindT (sc : Scope) (t : Expr) (d : D) (σ : Sig) : Option Sig := match t with
  | .Name x _ => if stOk sc x then some (Sig.set σ x d) else none
  | .Tuple ts _ _ => match namesOf ts, d with
    | some xs, .list ds => if ds.length == xs.length && xs.all (stOk sc) then setAll σ xs ds else none
    | some xs, .tup ds => if ds.length == xs.length && xs.all (stOk sc) then setAll σ xs ds else none
    | _, _ => none
  | _ => none

noncomputable def seqM (f : Expr → Option D) : List Expr → Option (List D)
  | [] => some []
  | e :: r => match f e with
    | some d => (seqM f r).map (d :: ·)
    | none => none

noncomputable def chainT (ev : Expr → Option D) (l : D) : List CmpOp → List Expr → Option Bool
  | [op], [e] => (ev e).bind fun r => cmpD op l r
  | op :: op' :: ops, e :: e' :: es => (ev e).bind fun r => (cmpD op l r).bind fun b => if b then chainT ev r (op' :: ops) (e' :: es) else some false
  | _, _ => none

noncomputable def allT (tr : Expr → Option Bool) (op : BoolOp) : List Expr → Option Bool
  | [] => some (op == .And)
  | e :: r => match op, tr e with
    | .And, some false => some false
    | .Or, some true => some true
    | .And, some true => allT tr op r
    | .Or, some false => allT tr op r
    | _, none => none

noncomputable def ifsT (tr : Expr → Option Bool) : List Expr → Option Bool
  | [] => some true
  | e :: r => match tr e with
    | some true => ifsT tr r
    | some false => some false
    | none => none

structure Know where
  Φ : Str → List D → Option D
  Γ : Str → List D → Option (List D)
  gl : Str → Option UInt64
  lsc : Scope
  lpos : Nat × Nat

noncomputable def charsD (s : Str) : List D := s.cps.toList.map fun c => D.str ⟨#[c]⟩
noncomputable def itemsD : D → Option (List D)
  | .list xs => some xs
  | .tup xs => some xs
  | .str s => some (charsD s)
  | _ => none

noncomputable def isGlob (sc : Scope) (f : Str) : Bool := sc.names.lookup f == some .globalImplicit

noncomputable def glF (K : Know) (sc : Scope) (σ : Sig) : Expr → Option UInt64
  | .Name x _ => if (σ x).isNone && isGlob sc x && !(x == "__debug__") then K.gl x else none
  | _ => none
noncomputable def glD : Operator → UInt64 → UInt64 → Option D
  | .Add, a, b => some (.flt (Float64.add a b))
  | .Sub, a, b => some (.flt (Float64.sub a b))
  | _, _, _ => none

noncomputable def genCall : Expr → Bool
  | .Call (.Name f _) _ _ _ => f == "_iter_escaped_chars"
  | _ => false
noncomputable def itE (K : Know) (ev : Expr → Option D) (sc : Scope) (e : Expr) : Option (List D) := match e with
  | .Call (.Name f _) args [] _ =>
    if f == "range" then (if isGlob sc f then (seqM ev args).bind fun ds => match ds with
      | [.int b] => if smallI b then some (rngD 0 b) else none
      | [.int a, .int b] => if smallI a && smallI b then some (rngD a b) else none
      | _ => none else none)
    else if f == "_iter_escaped_chars" then (if isGlob sc f then (seqM ev args).bind fun ds => K.Γ f ds else none)
    else (ev e).bind itemsD
  | e => (ev e).bind itemsD

noncomputable def unset (σ : Sig) : Expr → Bool
  | .Name x _ => (σ x).isNone
  | .Tuple ts _ _ => match namesOf ts with
    | some xs => xs.all fun x => (σ x).isNone
    | none => false
  | _ => false
noncomputable def compL (f : Sig → Option (List D)) (sc : Scope) (t : Expr) (tr : Sig → Expr → Option Bool) (ifs : List Expr) (σ : Sig) : List D → Option (List D)
  | [] => some []
  | d :: ds => if unset σ t then (bindT sc t d σ).bind fun σ' => (ifsT (tr σ') ifs).bind fun b =>
      if b then (f σ').bind fun here => (compL f sc t tr ifs σ ds).map (here ++ ·) else compL f sc t tr ifs σ ds
    else none

noncomputable def compG (K : Know) (ev : Sig → Expr → Option D) (tr : Sig → Expr → Option Bool) (sc : Scope) (elt : Expr) : List Comprehension → Sig → Option (List D)
  | [], σ => (ev σ elt).map ([·])
  | ⟨t, it, ifs, as⟩ :: gs, σ => if as == 0 then (itE K (ev σ) sc it).bind fun ds => compL (compG K ev tr sc elt gs) sc t tr ifs σ ds else none

noncomputable def freeSig (scope : Scope) (σ : Sig) : Sig := fun x => if scope.names.lookup x = some .free then σ x else none
noncomputable def compOk (sc scope : Scope) : Bool :=
  scope.kind == .function && scope.names.all fun y => (y.2 != .cell) && (y.2 != .local || scope.names.lookup y.1 == some .local) && (y.2 != .free || (sc.names.lookup y.1 == some .cell || sc.names.lookup y.1 == some .free)) && (y.2 != .free || scope.names.lookup y.1 == some .free)

set_option tactic.hygienic false
mutual
noncomputable def ev (K : Know) : Nat → Scope → Sig → Expr → Option D
  | 0, _, _, _ => none
  | n + 1, sc, σ, e => match e with
    | .Constant c _ _ => cstD c
    | .Name x _ => if x == "__debug__" || x == "__classdict__" then none else σ x
    | .BinOp l op r _ => match glF K sc σ l, glF K sc σ r with
      | some a, none => (ev K n sc σ r).bind fun b => match b with | .flt y => glD op a y | _ => none
      | none, some b => (ev K n sc σ l).bind fun a => match a with | .flt x => glD op x b | _ => none
      | none, none => (ev K n sc σ l).bind fun a => (ev K n sc σ r).bind fun b => binD op a b
      | some _, some _ => none
    | .UnaryOp .USub x _ => (ev K n sc σ x).bind fun a => match a with | .int i => some (.int (-i)) | _ => none
    | .Compare l ops cs _ => (ev K n sc σ l).bind fun a => (chainT (ev K n sc σ) a ops cs).map .bool
    | .IfExp t a b _ => (tr K n sc σ t).bind fun c => if c then ev K n sc σ a else ev K n sc σ b
    | .List es _ => (seqM (ev K n sc σ) es).bind listD
    | .Tuple es _ _ => (seqM (ev K n sc σ) es).bind tupD
    | .Subscript (.Name x p) (.Slice lo hi none _) _ => (ev K n sc σ (.Name x p)).bind fun a =>
        (bndD' (ev K n sc σ) lo).bind fun l => (bndD' (ev K n sc σ) hi).bind fun h => sliceD a l h
    | .Subscript v i _ => (ev K n sc σ v).bind fun a => (ev K n sc σ i).bind fun b => idxD a b
    | .ListComp elt gens scope _ => if compOk sc scope && decide (scope ≠ K.lsc) then match gens with
        | ⟨t, it, ifs, as⟩ :: gs => if as == 0 then (itE K (ev K n sc σ) sc it).bind fun ds =>
            (compL (compG K (ev K n scope) (tr K n scope) scope elt gs) scope t (tr K n scope) ifs (freeSig scope σ) ds).bind listD else none
        | [] => none
      else none
    | .Call (.Name f _) args [] _ => if f == "__debug__" || (σ f).isSome || !(isGlob sc f) then none
        else if f == "list" then (match args with
          | [.Call (.Name f₂ _) [e] [] _] => if f₂ == "range" && isGlob sc f₂ then (ev K n sc σ e).bind fun d => (match d with
              | .int b => if smallI b && decide (b ≤ 1000) then some (.list (rngD 0 b)) else none
              | _ => none) else none
          | _ => none)
        else (seqM (ev K n sc σ) args).bind fun ds => if bltNames.contains f then bltD f ds else K.Φ f ds
    | .Call (.Name f _) [e] [⟨some kn, .Lambda ⟨[], [⟨x, none, _⟩], none, [], [], none, []⟩ (.UnaryOp .USub (.Subscript (.Name y _) (.Constant (.int j) _ _) _) _) lsc lpos, _⟩] _ =>
        if f == "sorted" && kn == "key" && isGlob sc f && decide (sc = K.lsc) && x == y && lamOk lsc x && decide ((lpos.line, lpos.col) = K.lpos) then
          (ev K n sc σ e).bind fun a => match a with
            | .list xs => (keysD (keyAt j) xs).bind fun ks =>
                if decide (ks.map (·.1)).Nodup && decide (xs.length < 64) then some (.list ((srtK ks).map (·.2))) else none
            | _ => none
        else none
    | .Call (.Attribute (.Dict [some k₁, some k₂] [v₁, v₂] _) name apos) [a, b] [] pos =>
        if name == "get" && apos.endLine == pos.line then
          (ev K n sc σ k₁).bind fun k₁ => (ev K n sc σ v₁).bind fun v₁ => (ev K n sc σ k₂).bind fun k₂ => (ev K n sc σ v₂).bind fun v₂ =>
          (ev K n sc σ a).bind fun a => (ev K n sc σ b).bind fun b => match k₁, k₂, a with
            | .int i, .int j, .int q => if i == j then none else if q == i then some v₁ else if q == j then some v₂ else some b
            | _, _, _ => none
        else none
    | .Call (.Attribute o name apos) [e] [] pos => if simpleE o && apos.endLine == pos.line then
        (ev K n sc σ o).bind fun a => (ev K n sc σ e).bind fun d => methD a name [d] else none
    | _ => none
noncomputable def tr (K : Know) : Nat → Scope → Sig → Expr → Option Bool
  | 0, _, _, _ => none
  | n + 1, sc, σ, e => match e with
    | .Compare l [.Lt] [r] _ => match glF K sc σ r with
      | some b => (ev K n sc σ l).bind fun a => match a with | .flt x => some (Float64.cmp x b == some Ordering.lt) | _ => none
      | none => (ev K n sc σ l).bind fun a => chainT (ev K n sc σ) a [.Lt] [r]
    | .Compare l ops cs _ => (ev K n sc σ l).bind fun a => chainT (ev K n sc σ) a ops cs
    | .BoolOp op vs _ => allT (tr K n sc σ) op vs
    | .Name .. | .Call .. => (ev K n sc σ e).bind fun d => match d with | .bool b => some b | _ => none
    | _ => none
noncomputable def bndD' (f : Expr → Option D) : Option Expr → Option (Option Int)
  | none => some none
  | some e => (f e).bind fun d => bndD (some d)
end

inductive Fl where
  | next
  | ret (d : D)

noncomputable def loopD (sc : Scope) (body : Sig → Option (Fl × Sig)) (t : Expr) : List D → Sig → Option (Fl × Sig)
  | [], σ => some (.next, σ)
  | d :: ds, σ => (bindT sc t d σ).bind fun σ' => (body σ').bind fun r => match r with
    | (.next, σ'') => loopD sc body t ds σ''
    | (.ret d, σ'') => some (.ret d, σ'')

noncomputable def isTup (e : Expr) : Bool := e.ctorIdx == 25
mutual
noncomputable def ex (K : Know) : Nat → Scope → Sig → Stmt → Option (Fl × Sig)
  | 0, _, _, _ => none
  | n + 1, sc, σ, st => match st with
    | .Assign [t] value _ => if isTup t && isTup value then none else (ev K n sc σ value).bind fun d => (bindT sc t d σ).map fun σ' => (.next, σ')
    | .AugAssign (.Name x _) op value _ => if !(stOk sc x) then none else (σ x).bind fun a => (ev K n sc σ value).bind fun b => match op, a, b with
        | .Add, .int i, .int j => some (.next, Sig.set σ x (.int (i + j)))
        | .Sub, .int i, .int j => some (.next, Sig.set σ x (.int (i - j)))
        | .Add, .str s, .str t => (strD (s ++ t)).map fun d => (.next, Sig.set σ x d)
        | _, _, _ => none
    | .If test body orelse _ => (tr K n sc σ test).bind fun b => if b then exs K n sc σ body else exs K n sc σ orelse
    | .For t it body [] _ => (itE K (ev K n sc σ) sc it).bind fun ds => (loopD sc (fun σ => exs K n sc σ body) t ds σ).bind fun r => match r with
        | (.next, σ') => some (.next, σ')
        | (.ret d, σ') => if genCall it then none else some (.ret d, σ')
    | .Return (some e) _ => (ev K n sc σ e).map fun d => (.ret d, σ)
    | _ => none
noncomputable def exs (K : Know) : Nat → Scope → Sig → List Stmt → Option (Fl × Sig)
  | 0, _, _, _ => none
  | _ + 1, _, σ, [] => some (.next, σ)
  | n + 1, sc, σ, st :: rest => (ex K n sc σ st).bind fun r => match r with
    | (.next, σ') => exs K n sc σ' rest
    | (.ret d, σ') => some (.ret d, σ')
end

noncomputable def runD (K : Know) (n : Nat) (d : DefRec) (args : List D) : Option D :=
  (setAll (fun zz => none) (d.params.args.map (·.arg)) args).bind fun σ => (exs K n d.scope σ d.body).bind fun r => match r with
    | (.ret v, _) => some v
    | (.next, _) => some .none

theorem chainT_1 (f : Expr → Option D) (l : D) (op : CmpOp) (e : Expr) : chainT f l [op] [e] = (f e).bind fun r => cmpD op l r := rfl
theorem chainT_2 (f : Expr → Option D) (l : D) (op op' : CmpOp) (ops : List CmpOp) (e e' : Expr) (es : List Expr) : chainT f l (op :: op' :: ops) (e :: e' :: es) = (f e).bind fun r => (cmpD op l r).bind fun b => if b = true then chainT f r (op' :: ops) (e' :: es) else some false := rfl
theorem noneE {α : Type} {d : α} {P : Prop} (h : (none : Option α) = some d) : P := by cases h

end Mine
end

section
open PySem PySem.W PyProof.Rows
set_option maxRecDepth 100000
namespace Mine
variable {c : Cx} {A : Around} {s : Shared} {T : Gh} {X : Addr → Prop}

set_option tactic.hygienic false
theorem big_le : big ≤ sizeLine := by unfold big sizeLine; omega
theorem res_val {d : D} {v : Value} (h : Rp s.heap T X d v) : Res c s T X d v s := ⟨T, Step.refl c s T, h⟩
theorem res_tok {d : D} {v : Value} {t : Nat} (h : Rp s.heap T X d v) (ht : s.toks ≤ t) : Res c s T X d v { s with toks := t } := ⟨T, Step.tok ht, h⟩
theorem rp_int {h : Heap} (i : Int) (t : Tok) : Rp h T X (.int i) (.int i t) := by simp only [Rp]; exact ⟨t, rfl⟩
theorem rp_str {h : Heap} {i : Str} (hl : i.length ≤ big) (t : Tok) : Rp h T X (.str i) (.str i t) := by simp only [Rp]; exact ⟨hl, t, rfl⟩
theorem rp_bool {h : Heap} (b : Bool) : Rp h T X (.bool b) (.bool b) := by simp only [Rp]
theorem res_int (i : Int) : Res c s T X (.int i) (.int i s.toks) { s with toks := s.toks + 1 } := res_tok (rp_int i _) (Nat.le_succ _)
theorem res_flt (g : Ok c s T) (i : UInt64) : Res c s T X (.flt i) (.float i s.toks) { s with toks := s.toks + 1 } :=
  ⟨_, Step.float g i, by simp only [Rp]; exact ⟨_, rfl, if_pos rfl⟩⟩
theorem res_str {i : Str} {t k : Nat} (h : i.length ≤ big) (hk : s.toks ≤ k) : Res c s T X (.str i) (.str i t) { s with toks := k } := res_tok (rp_str h t) hk
theorem res_bool (b : Bool) : Res c s T X (.bool b) (.bool b) s := res_val (rp_bool b)
theorem strD_some {s : Str} {d : D} (h : strD s = some d) : s.length ≤ big ∧ d = .str s := by
  unfold strD at h; split at h
  · cases h; exact ⟨by assumption, rfl⟩
  · cases h
theorem listD_some {s : List D} {d : D} (h : listD s = some d) : s.length ≤ big ∧ d = .list s := by
  unfold listD at h; split at h
  · cases h; exact ⟨by assumption, rfl⟩
  · cases h
theorem tupD_some {s : List D} {d : D} (h : tupD s = some d) : s.length ≤ big ∧ d = .tup s := by
  unfold tupD at h; split at h
  · cases h; exact ⟨by assumption, rfl⟩
  · cases h
theorem smallI_iff {a : Int} : smallI a = true ↔ -4611686018427387904 < a ∧ a < 4611686018427387904 := by simp [smallI]
theorem smallI_bits {a : Int} (h : smallI a = true) : Builtin.Int.intBits a ≤ 64 := by
  have := smallI_iff.mp h
  exact intBits_le_64 (by omega) (by omega)
theorem smallI_log {a : Int} (h : smallI a = true) : a.natAbs.log2 < 9000 := by
  have := smallI_iff.mp h
  by_cases h0 : a.natAbs = 0
  · rw [h0]; decide +kernel
  · have : a.natAbs.log2 < 63 := (Nat.log2_lt h0).mpr (by omega)
    omega
theorem smallI_fits {a : Int} (h : smallI a = true) : ¬ Float64.isInf (Float64.ofInt a) = true := by
  have := smallI_iff.mp h
  refine Float64.ofInt_fits (Nat.lt_of_lt_of_le (m := 2 ^ 62) (by omega) ?_)
  exact Nat.pow_le_pow_right (by omega) (by omega)

theorem rp_newList {ds : List D} {vs : List Value} (g : Gd c s.heap) (hX : Al c s.heap X) (H : RpL s.heap T X ds vs) (hl : ds.length ≤ big) :
    Res c s T X (.list ds) (.ref s.heap.objs.size) { s with heap := s.heap.push { cls := .type "list", data := .seq vs.toArray } } := by
  refine ⟨T, Step.alloc _, ?_⟩
  simp only [Rp]
  exact ⟨hl, _, vs, rfl, hX.lt, ⟨0, Heap.get?_push_size _ rfl⟩, (Step.alloc (T := T) _).rpL g H⟩
theorem rp_newTup {ds : List D} {vs : List Value} (g : Gd c s.heap) (hX : Al c s.heap X) (H : RpL s.heap T X ds vs) (hl : ds.length ≤ big) :
    Res c s T X (.tup ds) (.ref s.heap.objs.size) { s with heap := s.heap.push { cls := .type "tuple", data := .seq vs.toArray } } := by
  refine ⟨T, Step.alloc _, ?_⟩
  simp only [Rp]
  exact ⟨hl, _, vs, rfl, hX.lt, ⟨0, Heap.get?_push_size _ rfl⟩, (Step.alloc (T := T) _).rpL g H⟩

theorem rep_size (x : Array Nat) : ∀ (k : Nat) (acc : Array Nat), ((List.replicate k x).foldl (· ++ ·) acc).size = acc.size + k * x.size
  | 0, acc => by simp
  | k + 1, acc => by
    rw [List.replicate_succ, List.foldl_cons, rep_size x k, Array.size_append, Nat.succ_mul]; omega
theorem mul_len (x : Str) (n : Int) (h1 : 0 < n) (h2 : n ≤ 64) (hx : x.length ≤ 64) : (Txt.mul x n).length ≤ big := by
  unfold Txt.mul
  rw [if_neg (by omega)]
  split
  · unfold big; omega
  · show Array.size _ ≤ _
    rw [rep_size]
    have : n.toNat ≤ 64 := by omega
    have hx' : x.cps.size ≤ 64 := hx
    have := Nat.mul_le_mul this hx'
    simp only [Array.size_empty] 
    unfold big; omega

noncomputable def BinS (c : Cx) (A : Around) (s : Shared) (T : Gh) (X : Addr → Prop) (d : D) (u v : Value) (op : Operator) (a b : D) : Prop := binD op a b = some d → Rp s.heap T X a u → Rp s.heap T X b v → wpAny (model c.prog c.w) A (binaryOp op u v) (Res c s T X d) noE s
theorem binNo {op : Operator} {a b d : D} {u v : Value} (h : binD op a b = none) : BinS c A s T X d u v op a b := fun q zz zz => by rw [h] at q; cases q
set_option tactic.hygienic true
theorem bin_all {op : Operator} {a b d : D} {u v : Value} (g : Ok c s T) (hX : Al c s.heap X) : BinS c A s T X d u v op a b := by
  induction op using Operator.casesOn with
  | Add =>
    induction a using D.casesOn with
    | int a =>
      induction b using D.casesOn with
      | int b =>
        intro h ha hb
        obtain ⟨t, rfl⟩ := ha; obtain ⟨t', rfl⟩ := hb; cases h
        exact AutoIntOps.add_0 (res_int _)
      | _ => exact binNo (Eq.refl none)
    | flt a =>
      induction b using D.casesOn with
      | flt b =>
        intro h ha hb
        obtain ⟨t, rfl, _⟩ := ha; obtain ⟨t', rfl, _⟩ := hb; cases h
        exact AutoFloatOps.add_0 (res_flt g _)
      | _ => exact binNo (Eq.refl none)
    | str a =>
      induction b using D.casesOn with
      | str b =>
        intro h ha hb
        obtain ⟨h1, t, rfl⟩ := ha; obtain ⟨h2, t', rfl⟩ := hb
        obtain ⟨hl, rfl⟩ := strD_some h
        refine leaf (PyProof.Rows.add_str (fun t' k hk => res_str hl hk) ?_)
        rw [Str.length_append] at hl
        have := big_le; omega
      | _ => exact binNo (Eq.refl none)
    | list a =>
      induction b using D.casesOn with
      | list b =>
        intro h ha hb
        obtain ⟨h1, l1, vs1, rfl, hx1, ⟨n1, o1⟩, r1⟩ := ha; obtain ⟨h2, l2, vs2, rfl, hx2, ⟨n2, o2⟩, r2⟩ := hb
        obtain ⟨hl, rfl⟩ := listD_some h
        refine P.add_list o1 o2 ?_ ?_
        · have := rp_newList (c := c) g.gd hX (r1.append r2) hl
          simpa using this
        · have e1 := r1.length; have e2 := r2.length
          have := big_le
          simp only [List.size_toArray]
          rw [List.length_append] at hl
          omega
      | _ => exact binNo (Eq.refl none)
    | _ => exact binNo (Eq.refl none)
  | Sub =>
    induction a using D.casesOn with
    | int a =>
      induction b using D.casesOn with
      | int b =>
        intro h ha hb
        obtain ⟨t, rfl⟩ := ha; obtain ⟨t', rfl⟩ := hb; cases h
        exact AutoIntOps.sub_0 (res_int _)
      | _ => exact binNo (Eq.refl none)
    | flt a =>
      induction b using D.casesOn with
      | flt b =>
        intro h ha hb
        obtain ⟨t, rfl, _⟩ := ha; obtain ⟨t', rfl, _⟩ := hb; cases h
        exact AutoFloatOps.sub_0 (res_flt g _)
      | int b =>
        intro h ha hb
        replace h : (if (smallI b : Bool) = true then some (.flt (Float64.sub a (Float64.ofInt b))) else none) = some d := h
        obtain ⟨t, rfl, _⟩ := ha; obtain ⟨t', rfl⟩ := hb
        split at h
        · rename_i hs; cases h; exact AutoFloatOps.sub_fi_1 (smallI_fits hs) (res_flt g _)
        · cases h
      | _ => exact binNo (Eq.refl none)
    | _ => exact binNo (Eq.refl none)
  | Mult =>
    induction a using D.casesOn with
    | int a =>
      induction b using D.casesOn with
      | int b =>
        intro h ha hb
        replace h : (if (smallI a && smallI b : Bool) = true then some (.int (a * b)) else none) = some d := h
        obtain ⟨t, rfl⟩ := ha; obtain ⟨t', rfl⟩ := hb
        split at h
        · rename_i hs; cases h
          exact AutoIntOps.mul_0 (res_int _) (IntMulOk.of_left (smallI_bits (Bool.and_eq_true_iff.mp hs).1))
        · cases h
      | flt b =>
        intro h ha hb
        replace h : (if (smallI a : Bool) = true then some (.flt (Float64.mul (Float64.ofInt a) b)) else none) = some d := h
        obtain ⟨t, rfl⟩ := ha; obtain ⟨t', rfl, _⟩ := hb
        split at h
        · rename_i hs; cases h; exact AutoFloatOps.mul_if_1 (smallI_fits hs) (res_flt g _)
        · cases h
      | _ => exact binNo (Eq.refl none)
    | flt a =>
      induction b using D.casesOn with
      | flt b =>
        intro h ha hb
        obtain ⟨t, rfl, _⟩ := ha; obtain ⟨t', rfl, _⟩ := hb; cases h
        exact AutoFloatOps.mul_0 (res_flt g _)
      | int b =>
        intro h ha hb
        replace h : (if (smallI b : Bool) = true then some (.flt (Float64.mul a (Float64.ofInt b))) else none) = some d := h
        obtain ⟨t, rfl, _⟩ := ha; obtain ⟨t', rfl⟩ := hb
        split at h
        · rename_i hs; cases h; exact AutoFloatOps.mul_fi_1 (smallI_fits hs) (res_flt g _)
        · cases h
      | _ => exact binNo (Eq.refl none)
    | str a =>
      induction b using D.casesOn with
      | int b =>
        intro h ha hb
        replace h : (if (0 < b && b ≤ 64 && a.length ≤ 64 : Bool) = true then some (.str (Txt.mul a b)) else none) = some d := h
        obtain ⟨h1, t, rfl⟩ := ha; obtain ⟨t', rfl⟩ := hb
        split at h
        · rename_i hs; cases h
          simp only [Bool.and_eq_true, decide_eq_true_eq] at hs
          obtain ⟨⟨h3, h4⟩, h5⟩ := hs
          refine leaf (SB.mul ⟨?_, ?_, ?_⟩ (fun t' k hk => res_str (mul_len _ _ h3 h4 h5) hk))
          · simp only [Bool.or_eq_false_iff, decide_eq_false_iff_not]; constructor <;> omega
          · intro _ _ q
            have e : (64 : Int) ≤ (2 ^ 63 - 1) / b := Int.le_ediv_of_mul_le h3 (by omega)
            omega
          · intro _ _
            have : b.toNat ≤ 64 := by omega
            have := Nat.mul_le_mul h5 this
            exact decide_eq_false (by rw [sizeLine_eq]; omega)
        · cases h
      | _ => exact binNo (Eq.refl none)
    | _ => exact binNo (Eq.refl none)
  | FloorDiv =>
    induction a using D.casesOn with
    | int a =>
      induction b using D.casesOn with
      | int b =>
        intro h ha hb
        replace h : (if (b == 0 || !(smallI b) : Bool) = true then none else some (.int (a.fdiv b))) = some d := h
        obtain ⟨t, rfl⟩ := ha; obtain ⟨t', rfl⟩ := hb
        split at h
        · cases h
        · rename_i hs; cases h
          simp only [Bool.or_eq_true, Bool.not_eq_true', not_or, Bool.not_eq_false] at hs
          exact AutoIntOps.floordiv_1 hs.1 (by rw [PyProof.noPylong_of_log2 (smallI_log hs.2)]; exact Bool.false_ne_true) (res_int _)
      | _ => exact binNo (Eq.refl none)
    | _ => exact binNo (Eq.refl none)
  | Mod =>
    induction a using D.casesOn with
    | int a =>
      induction b using D.casesOn with
      | int b =>
        intro h ha hb
        replace h : (if (b == 0 : Bool) = true then none else some (.int (a.fmod b))) = some d := h
        obtain ⟨t, rfl⟩ := ha; obtain ⟨t', rfl⟩ := hb
        split at h
        · cases h
        · rename_i hs; cases h
          exact AutoIntOps.mod_1 hs (res_int _)
      | _ => exact binNo (Eq.refl none)
    | flt a =>
      induction b using D.casesOn with
      | flt b =>
        intro h ha hb
        replace h : (if (Float64.isZero b : Bool) = true then none else some (.flt (Float64.divmod a b).2)) = some d := h
        obtain ⟨t, rfl, _⟩ := ha; obtain ⟨t', rfl, _⟩ := hb
        split at h
        · cases h
        · rename_i hs; cases h; exact AutoFloatOps.mod_1 hs (res_flt g _)
      | _ => exact binNo (Eq.refl none)
    | _ => exact binNo (Eq.refl none)
  | Div =>
    induction a using D.casesOn with
    | int a =>
      induction b using D.casesOn with
      | int b =>
        intro h ha hb
        replace h : (if (b == 0 || Float64.isInf (Float64.ofFrac (decide (a < 0) != decide (b < 0)) a.natAbs b.natAbs) : Bool) = true then none else some (.flt (Float64.ofFrac (decide (a < 0) != decide (b < 0)) a.natAbs b.natAbs))) = some d := h
        obtain ⟨t, rfl⟩ := ha; obtain ⟨t', rfl⟩ := hb
        split at h
        · cases h
        · rename_i hs; cases h
          simp only [Bool.or_eq_true, not_or] at hs
          exact AutoIntOps.truediv_2 hs.1 hs.2 (res_flt g _)
      | _ => exact binNo (Eq.refl none)
    | flt a =>
      induction b using D.casesOn with
      | flt b =>
        intro h ha hb
        replace h : (if (Float64.isZero b : Bool) = true then none else some (.flt (Float64.div a b))) = some d := h
        obtain ⟨t, rfl, _⟩ := ha; obtain ⟨t', rfl, _⟩ := hb
        split at h
        · cases h
        · rename_i hs; cases h; exact AutoFloatOps.truediv_1 hs (res_flt g _)
      | int b =>
        intro h ha hb
        replace h : (if (smallI b && !(Float64.isZero (Float64.ofInt b)) : Bool) = true then some (.flt (Float64.div a (Float64.ofInt b))) else none) = some d := h
        obtain ⟨t, rfl, _⟩ := ha; obtain ⟨t', rfl⟩ := hb
        split at h
        · rename_i hs; cases h
          simp only [Bool.and_eq_true, Bool.not_eq_true'] at hs
          exact AutoFloatOps.truediv_fi_2 (smallI_fits hs.1) (by rw [hs.2]; exact Bool.false_ne_true) (res_flt g _)
        · cases h
      | _ => exact binNo (Eq.refl none)
    | _ => exact binNo (Eq.refl none)
  | Pow =>
    induction a using D.casesOn with
    | int a =>
      induction b using D.casesOn with
      | int b =>
        intro h ha hb
        replace h : (if (a == 2 && b == 20 : Bool) = true then some (.int 1048576) else none) = some d := h
        obtain ⟨t, rfl⟩ := ha; obtain ⟨t', rfl⟩ := hb
        split at h
        · rename_i hs; cases h
          simp only [Bool.and_eq_true, beq_iff_eq] at hs
          obtain ⟨rfl, rfl⟩ := hs
          refine AutoIntOps.pow_4 (by decide) (by decide) (by decide) (by decide) (by decide +kernel) ?_
          exact res_int (1048576 : Int)
        · cases h
      | _ => exact binNo (Eq.refl none)
    | _ => exact binNo (Eq.refl none)
  | _ => exact binNo (Eq.refl none)
set_option tactic.hygienic false
theorem binD_sound {op : Operator} {a b d : D} {u v : Value} (g : Ok c s T) (hX : Al c s.heap X) (h : binD op a b = some d) (ha : Rp s.heap T X a u) (hb : Rp s.heap T X b v) :
    wpAny (model c.prog c.w) A (binaryOp op u v) (Res c s T X d) noE s := bin_all g hX h ha hb
end Mine
end

section
open PySem PySem.W PyProof.Rows PySem.SeqAt
set_option maxRecDepth 100000
namespace Mine
variable {c : Cx} {A : Around} {s : Shared} {T : Gh} {X : Addr → Prop}

set_option tactic.hygienic false
theorem PlainTup.isTuple {h : Heap} {a : Addr} {items : Array Value} (x : PlainTup h a items) : h.IsTuple a items := let ⟨n, e⟩ := x; ⟨_, e, rfl, n, rfl⟩

theorem rcF {a b : UInt64} {t u : Tok} : RcAt A s (.float a t) (.float b u) (Float64.cmp a b == some Ordering.eq) := fun prog w E Q h => AutoFloatOps.eq_0 h
theorem rneF {a b : UInt64} {t u : Tok} : RcNeAt A s (.float a t) (.float b u) (!(Float64.cmp a b == some Ordering.eq)) := fun prog w E Q h => AutoFloatOps.ne_0 h
theorem eqF {a b : UInt64} {t u : Tok} (g : Ok c s T) (h1 : T t = some a) (h2 : T u = some b) (ha : Float64.isNaN a = false) : EqAt A s (.float a t) (.float b u) (Float64.cmp a b == some Ordering.eq) := fun prog w E Q hq => by
  have same : a = b → Q true s := by
    rintro rfl
    rw [PySem.Flt.cmp_self, ha] at hq; exact hq
  unfold eqBool
  refine wpAny_holding ?_
  refine wpAny_ite_split (fun hab => ?_) (fun zz => ?_)
  · have := eq_of_beq hab
    injection this with e1 e2
    exact wpAny_bind (wpAny_rule (wpAny_pure (same e1)))
  · have last : wpAny (model prog w) A (do truthOfDropped (← richCompare .Eq (.float a t) (.float b u))) Q E s :=
      wpAny_bind (rcF prog w E _ (wpAny_truthy_bool hq))
    refine wpAny_bind ?_
    unfold isSame isSame.created
    refine wpAny_ite_split (fun hz => ?_) (fun zz => ?_)
    · have q1 := (g.tv t a h1).2; have q2 := (g.tv u b h2).2
      simp only [Bool.or_eq_true, beq_iff_eq] at hz
      rcases hz with h | h
      · exact absurd h q1
      · exact absurd h q2
    refine wpAny_ite_split (fun he => ?_) (fun zz => ?_)
    · have e : t = u := by simpa using he
      subst e
      rw [h1] at h2; cases h2
      exact wpAny_pure (wpAny_pure (same rfl))
    refine wpAny_ite_split (fun he => ?_) (fun he => ?_)
    · exact wpAny_pure last
    · have e : a = b := by
        simp at he; exact he.1
      refine wpAny_bind (wpAny_sharingNotTold_none g.gd.booked (wpAny_ite_split (fun q => by cases q) fun zz => ?_))
      refine wpAny_bind (wpAny_sharingNotTold_none g.gd.booked (wpAny_ite_split (fun q => by cases q) fun zz => ?_))
      refine wpAny_bind (wpAny_rule (wpAny_bind (wpAny_askSetting (wpAny_pure ?_))))
      refine wpAny_ite_split (fun zz => wpAny_pure (same e)) (fun zz => last)

set_option tactic.hygienic true
theorem eqLW_same {h : Heap} {f : D → D → Option Bool} (hf : ∀ d₁ d₂ v b, Rp h T X d₁ v → Rp h T X d₂ v → f d₁ d₂ = some b → b = true) :
    ∀ (a b : List D) (vs : List Value) (r : Bool), RpL h T X a vs → RpL h T X b vs → eqLW f a b = some r → r = true
  | [], _, _, _, _, _, e => by simp only [eqLW] at e; cases e; rfl
  | _ :: _, [], _, _, _, _, e => by simp only [eqLW] at e; cases e; rfl
  | x :: a, y :: b, vs, r, H, K, e => by
    simp only [RpL] at H
    obtain ⟨v, vs', rfl, h1, h2⟩ := H
    rw [RpL.cons_iff] at K
    simp only [eqLW] at e
    split at e
    · rename_i p q e1 e2; cases e
      rw [hf _ _ _ _ h1 K.1 e1, eqLW_same hf a b vs' q h2 K.2 e2]; rfl
    · cases e
theorem eqN_same {h : Heap} : ∀ (n : Nat) (d₁ d₂ : D) (v : Value) (b : Bool), Rp h T X d₁ v → Rp h T X d₂ v → eqN n d₁ d₂ = some b → b = true
  | 0, _, _, _, _, _, _, e => by cases e
  | n + 1, d₁, d₂, v, b, h1, h2, e => by
    unfold eqN at e
    split at e <;> (try simp only [Rp] at h1 h2)
    · obtain ⟨t, rfl⟩ := h1; obtain ⟨t', e'⟩ := h2; cases e'; cases e; simp
    · obtain ⟨t, rfl, _⟩ := h1; obtain ⟨t', e', _⟩ := h2; cases e'
      split at e
      · cases e
      · rename_i hn; cases e
        rw [PySem.Flt.cmp_self]; simpa using hn
    · obtain ⟨_, t, rfl⟩ := h1; obtain ⟨_, t', e'⟩ := h2; cases e'; cases e; simp
    · obtain ⟨_, a, vs, rfl, _, ⟨n1, o1⟩, r1⟩ := h1; obtain ⟨_, a', vs', e', _, ⟨n2, o2⟩, r2⟩ := h2
      cases e'
      rw [o1] at o2; cases o2
      split at e
      · exact eqLW_same (eqN_same n) _ _ _ _ r1 r2 e
      · rename_i hl
        have := r1.length; have := r2.length
        simp at hl; omega
    · obtain ⟨_, a, vs, rfl, _, ⟨n1, o1⟩, r1⟩ := h1; obtain ⟨_, a', vs', e', _, ⟨n2, o2⟩, r2⟩ := h2
      cases e'
      rw [o1] at o2; cases o2
      split at e
      · exact eqLW_same (eqN_same n) _ _ _ _ r1 r2 e
      · cases e
    · cases e

theorem eqLW_get {f : D → D → Option Bool} : ∀ (a b : List D) (r : Bool), a.length = b.length → eqLW f a b = some r →
    ∃ e : Nat → Bool, (∀ j x y, a[j]? = some x → b[j]? = some y → f x y = some (e j)) ∧ (List.range a.length).all e = r
  | [], [], r, _, h => by simp only [eqLW] at h; cases h; exact ⟨fun zz => true, fun zz zz zz q => (nomatch q), rfl⟩
  | [], _ :: _, _, hl, _ => by cases hl
  | _ :: _, [], _, hl, _ => by cases hl
  | x :: a, y :: b, r, hl, h => by
    simp only [eqLW] at h
    split at h
    · rename_i p q e1 e2; cases h
      obtain ⟨e, h1, h2⟩ := eqLW_get a b q (by simpa using hl) e2
      refine ⟨fun j => match j with | 0 => p | j + 1 => e j, fun j u v hu hv => ?_, ?_⟩
      · cases j with
        | zero => cases hu; cases hv; exact e1
        | succ j => exact h1 j u v (by simpa using hu) (by simpa using hv)
      · rw [List.length_cons, List.range_succ_eq_map, List.all_cons, List.all_map, ← h2]; rfl
    · cases h

theorem eqN_at (g : Ok c s T) : ∀ (n : Nat) (A : Around) (d₁ d₂ : D) (u v : Value) (b : Bool), A.units + n < cLine → Rp s.heap T X d₁ u → Rp s.heap T X d₂ v → eqN n d₁ d₂ = some b →
    EqAt A s u v b ∧ RcAt A s u v b ∧ RcNeAt A s u v (!b)
  | 0, _, _, _, _, _, _, _, _, _, e => by cases e
  | n + 1, A, d₁, d₂, u, v, b, hu, h1, h2, e => by
    have e0 := e
    have g1 := h1
    have g2 := h2
    have items : ∀ (xs ys : List D) (vs us : List Value) (r : Bool), xs.length = ys.length → RpL s.heap T X xs vs → RpL s.heap T X ys us → eqLW (eqN n) xs ys = some r →
        ∃ e : Nat → Bool, (∀ j (q1 : j < vs.toArray.size) (q2 : j < us.toArray.size), EqAt A.in1 s vs.toArray[j] us.toArray[j] (e j)) ∧ (List.range vs.toArray.size).all e = r := by
      intro xs ys vs us r hl hx hy hr
      obtain ⟨e, he, ha⟩ := eqLW_get xs ys r hl hr
      refine ⟨e, fun j q1 q2 => ?_, by rw [List.size_toArray, hx.length]; exact ha⟩
      rw [List.size_toArray] at q1 q2
      obtain ⟨x, hx1, hx2⟩ := hx.get' (i := j) (v := vs[j]) (by simp [q1])
      obtain ⟨y, hy1, hy2⟩ := hy.get' (i := j) (v := us[j]) (by simp [q2])
      simpa using (eqN_at g n A.in1 x y _ _ (e j) (by show A.units + 1 + n < cLine; omega) hx2 hy2 (he j x y hx1 hy1)).1
    unfold eqN at e
    split at e <;> (try simp only [Rp] at h1 h2)
    · obtain ⟨t, rfl⟩ := h1; obtain ⟨t', rfl⟩ := h2; cases e
      exact ⟨EqAt.int_int _ _ _ _, RcAt.int_int _ _ _ _, RcNeAt.int_int _ _ _ _⟩
    · obtain ⟨t, rfl, q1⟩ := h1; obtain ⟨t', rfl, q2⟩ := h2
      split at e
      · cases e
      · rename_i hn; cases e
        simp only [Bool.or_eq_true, not_or, Bool.not_eq_true] at hn
        exact ⟨eqF g q1 q2 hn.1, rcF, rneF⟩
    · obtain ⟨_, t, rfl⟩ := h1; obtain ⟨_, t', rfl⟩ := h2; cases e
      exact ⟨EqAt.str_str _ _ _ _, RcAt.str_str _ _ _ _, RcNeAt.str_str _ _ _ _⟩
    · obtain ⟨_, a, vs, rfl, _, p1, r1⟩ := h1; obtain ⟨_, a', vs', rfl, _, p2, r2⟩ := h2
      have e1 := r1.length
      have e2 := r2.length
      have key : RcAt A s (.ref a) (.ref a') b ∧ RcNeAt A s (.ref a) (.ref a') (!b) := by
        split at e
        · rename_i hl
          have hl' := beq_iff_eq.mp hl
          obtain ⟨f, hf, ha⟩ := items _ _ _ _ _ hl' r1 r2 e
          have := RcAt.lists p1.isList p2.isList (by simp; omega) (by omega) hf
          have := RcNeAt.lists p1.isList p2.isList (by simp; omega) (by omega) hf
          rw [ha] at *
          exact ⟨by assumption, by assumption⟩
        · rename_i hl
          cases e
          have hz : (vs.toArray.size != vs'.toArray.size) = true := by simp at hl ⊢; omega
          exact ⟨RcAt.lists_lengths p1.isList p2.isList hz (by omega), RcNeAt.lists_lengths p1.isList p2.isList hz (by omega)⟩
      refine ⟨?_, key⟩
      by_cases hne : a = a'
      · subst hne
        have := eqN_same (n + 1) _ _ _ _ g1 g2 e0
        rw [this]; exact EqAt.same _
      · exact EqAt.of_refs hne key.1
    · obtain ⟨_, a, vs, rfl, _, p1, r1⟩ := h1; obtain ⟨_, a', vs', rfl, _, p2, r2⟩ := h2
      have e1 := r1.length
      have e2 := r2.length
      have key : RcAt A s (.ref a) (.ref a') b ∧ RcNeAt A s (.ref a) (.ref a') (!b) := by
        split at e
        · rename_i hl
          have hl' := beq_iff_eq.mp hl
          obtain ⟨f, hf, ha⟩ := items _ _ _ _ _ hl' r1 r2 e
          have hs : vs.toArray.size = vs'.toArray.size := by simp; omega
          have q1 := RcAt.tuples p1.isTuple p2.isTuple (by omega) hf
          have q2 := RcNeAt.tuples p1.isTuple p2.isTuple (by omega) hf
          rw [← hs, Nat.min_self, ha] at q1 q2
          simp only [beq_self_eq_true, Bool.and_true] at q1 q2
          exact ⟨q1, q2⟩
        · cases e
      refine ⟨?_, key⟩
      by_cases hne : a = a'
      · subst hne
        have := eqN_same (n + 1) _ _ _ _ g1 g2 e0
        rw [this]; exact EqAt.same _
      · exact EqAt.of_refs hne key.1
    · cases e

theorem inD_get {x : D} : ∀ (ys : List D) (b : Bool), inD x ys = some b → (∀ y ∈ ys, ∃ e, eqD y x = some e) ∧ ys.any (fun d => (eqD d x).getD false) = b
  | [], b, h => by simp only [inD] at h; cases h; exact ⟨by simp, rfl⟩
  | y :: ys, b, h => by
    simp only [inD] at h
    split at h
    · rename_i p q e1 e2; cases h
      obtain ⟨h1, h2⟩ := inD_get ys q e2
      refine ⟨fun z hz => ?_, ?_⟩
      · rcases List.mem_cons.mp hz with rfl | hz
        · exact ⟨_, e1⟩
        · exact h1 z hz
      · rw [List.any_cons, h2, e1]; rfl
    · cases h
open Classical in
noncomputable def onV (h : Heap) (T : Gh) (X : Addr → Prop) (f : D → Bool) (v : Value) : Bool := if hd : ∃ d, Rp h T X d v then f hd.choose else false
set_option tactic.hygienic false
theorem onV_is {h : Heap} {f : D → Bool} (d : D) (v : Value) (H : Rp h T X d v) : onV h T X f v = f d := by
  unfold onV
  have hd : ∃ d, Rp h T X d v := ⟨d, H⟩
  rw [dif_pos hd, hd.choose_spec.inj H]
set_option tactic.hygienic true
theorem cntD_get {x : D} : ∀ (ys : List D) (b : Nat), cntD x ys = some b → (∀ y ∈ ys, ∃ e, eqD y x = some e) ∧ ys.countP (fun d => (eqD d x).getD false) = b
  | [], b, h => by simp only [cntD] at h; cases h; exact ⟨by simp, rfl⟩
  | y :: ys, b, h => by
    simp only [cntD] at h
    split at h
    · rename_i p q e1 e2; cases h
      obtain ⟨h1, h2⟩ := cntD_get ys q e2
      refine ⟨fun z hz => ?_, ?_⟩
      · rcases List.mem_cons.mp hz with rfl | hz
        · exact ⟨_, e1⟩
        · exact h1 z hz
      · rw [List.countP_cons, h2, e1]
        cases p <;> rfl
    · cases h

noncomputable def CmpS (c : Cx) (A : Around) (s : Shared) (T : Gh) (X : Addr → Prop) (r : Bool) (u v : Value) (op : CmpOp) (a b : D) : Prop := cmpD op a b = some r → Rp s.heap T X a u → Rp s.heap T X b v → wpAny (model c.prog c.w) A (compareOp op u v) (fun w s' => w = .bool r ∧ s' = s) noE s
set_option tactic.hygienic false
theorem cmpNo {op : CmpOp} {a b : D} {r : Bool} {u v : Value} (h : cmpD op a b = none) : CmpS c A s T X r u v op a b := fun q zz zz => by rw [h] at q; cases q
theorem cmp_all {op : CmpOp} {a b : D} {r : Bool} {u v : Value} {k : Nat} (g : Ok c s T) (hr : Room A k) : CmpS c A s T X r u v op a b := by
  have hu : A.units + 4 < cLine := by have := hr.3; show A.units + 4 < 9900; omega
  induction op using CmpOp.casesOn with
  | Eq => exact fun h ha hb => (eqN_at g 4 A _ _ _ _ _ hu ha hb h).2.1 c.prog c.w noE _ ⟨rfl, rfl⟩
  | NotEq =>
    intro h ha hb
    obtain ⟨q, hq, rfl⟩ := Option.map_eq_some_iff.mp (show (eqD a b).map (!·) = some r from h)
    exact (eqN_at g 4 A _ _ _ _ _ hu ha hb hq).2.2 c.prog c.w noE _ ⟨rfl, rfl⟩
  | Lt =>
    induction a using D.casesOn with
    | int a =>
      induction b using D.casesOn with
      | int b =>
        intro h ha hb
        obtain ⟨t, rfl⟩ := ha; obtain ⟨t', rfl⟩ := hb; cases h
        exact wpAny_lt_int ⟨rfl, rfl⟩
      | _ => exact cmpNo (Eq.refl none)
    | flt a =>
      induction b using D.casesOn with
      | flt b =>
        intro h ha hb
        obtain ⟨t, rfl, _⟩ := ha; obtain ⟨t', rfl, _⟩ := hb; cases h
        exact AutoFloatOps.lt_0 ⟨rfl, rfl⟩
      | _ => exact cmpNo (Eq.refl none)
    | _ => exact cmpNo (Eq.refl none)
  | LtE =>
    induction a using D.casesOn with
    | int a =>
      induction b using D.casesOn with
      | int b =>
        intro h ha hb
        obtain ⟨t, rfl⟩ := ha; obtain ⟨t', rfl⟩ := hb; cases h
        exact le_int ⟨rfl, rfl⟩
      | _ => exact cmpNo (Eq.refl none)
    | flt a =>
      induction b using D.casesOn with
      | flt b =>
        intro h ha hb
        obtain ⟨t, rfl, _⟩ := ha; obtain ⟨t', rfl, _⟩ := hb; cases h
        exact AutoFloatOps.le_0 ⟨rfl, rfl⟩
      | _ => exact cmpNo (Eq.refl none)
    | _ => exact cmpNo (Eq.refl none)
  | Gt =>
    induction a using D.casesOn with
    | int a =>
      induction b using D.casesOn with
      | int b =>
        intro h ha hb
        obtain ⟨t, rfl⟩ := ha; obtain ⟨t', rfl⟩ := hb; cases h
        exact gt_int ⟨rfl, rfl⟩
      | _ => exact cmpNo (Eq.refl none)
    | _ => exact cmpNo (Eq.refl none)
  | In =>
    induction b using D.casesOn with
    | list ys =>
      intro h ha hb
      obtain ⟨_, l, vs, rfl, _, p, r1⟩ := hb
      obtain ⟨h1, h2⟩ := inD_get _ _ h
      refine in_listAt (onV s.heap T X fun d => (eqD d a).getD false) p.isList (fun y hy => ?_) ⟨?_, rfl⟩
      · obtain ⟨d, hd, hy'⟩ := r1.mem (by simpa using hy)
        obtain ⟨e, he⟩ := h1 d hd
        rw [onV_is d y hy', he]
        exact (eqN_at g 4 A.in1 _ _ _ _ _ (by show A.units + 1 + 4 < 9900; have := hr.3; omega) hy' ha he).1
      · rw [← h2]
        have := (RpL.any (fun d => (eqD d a).getD false) _ onV_is r1).1
        simpa using congrArg Value.bool this
    | _ => exact cmpNo (Eq.refl none)
  | NotIn =>
    induction a using D.casesOn with
    | str a =>
      induction b using D.casesOn with
      | str b =>
        intro h ha hb
        obtain ⟨_, t, rfl⟩ := ha; obtain ⟨_, t', rfl⟩ := hb; cases h
        exact PyProof.Rows.notIn_str ⟨rfl, rfl⟩
      | _ => exact cmpNo (Eq.refl none)
    | _ => exact cmpNo (Eq.refl none)
  | _ => exact cmpNo (Eq.refl none)
theorem cmpD_sound {op : CmpOp} {a b : D} {r : Bool} {u v : Value} {k : Nat} (g : Ok c s T) (hr : Room A k) (h : cmpD op a b = some r) (ha : Rp s.heap T X a u) (hb : Rp s.heap T X b v) :
    wpAny (model c.prog c.w) A (compareOp op u v) (fun w s' => w = .bool r ∧ s' = s) noE s := cmp_all g hr h ha hb

end Mine
end

section
open PySem PySem.W PyProof.Rows PySem.SeqAt
set_option maxRecDepth 100000
namespace Mine
variable {c : Cx} {A : Around} {s : Shared} {T : Gh} {X : Addr → Prop} {env : Env} {sc : Scope} {σ : Sig}

set_option tactic.hygienic false
theorem bindR {t : Sem Value} {d : D} {Q : Value → Shared → Prop} (g : Ok c s T) (h : wpAny (model c.prog c.w) A t (Res c s T X d) noE s)
    (k : ∀ v s' T', Ok c s' T' → Step c s T s' T' → Rp s'.heap T' X d v → Q v s') : wpAny (model c.prog c.w) A t Q noE s :=
  wpAny_mono h (fun v s' ⟨T', st, r⟩ => k v s' T' (st.ok g) st r) (fun zz zz e => e)

noncomputable def ResL (c : Cx) (s : Shared) (T : Gh) (X : Addr → Prop) (ds : List D) : List Value → Shared → Prop := fun vs s' => ∃ T', Step c s T s' T' ∧ RpL s'.heap T' X ds vs
noncomputable def ResB (c : Cx) (s : Shared) (T : Gh) (b : Bool) : Bool → Shared → Prop := fun r s' => r = b ∧ ∃ T', Step c s T s' T'
theorem Step.res {s' : Shared} {T' : Gh} {X : Addr → Prop} {d : D} {v : Value} {s'' : Shared} (x : Step c s T s' T') (h : Res c s' T' X d v s'') : Res c s T X d v s'' := let ⟨T'', y, r⟩ := h; ⟨T'', x.trans y, r⟩
theorem Step.resB {s' : Shared} {T' : Gh} {b r : Bool} {s'' : Shared} (x : Step c s T s' T') (h : ResB c s' T' b r s'') : ResB c s T b r s'' := let ⟨e, T'', y⟩ := h; ⟨e, T'', x.trans y⟩

noncomputable def plainE (e : Expr) : Bool := !(e.ctorIdx == 22 || e.ctorIdx == 7)
theorem starEach_plain {e : Expr} {rest : List Expr} (h : plainE e = true) : starEach (e :: rest) env = (false, eval e env) :: starEach rest env := by
  cases e <;> first | rfl | cases h
theorem marks_plain {op : CmpOp} {e : Expr} (h : plainE e = true) : behindInMarks op e = false := by
  cases e <;> first | rfl | cases h

structure EvS (c : Cx) (A : Around) (env : Env) (sc : Scope) (σ : Sig) (X : Addr → Prop) (f : Expr → Option D) : Prop where
  plain : ∀ e d, f e = some d → plainE e = true
  ok : ∀ e d s T, f e = some d → Ok c s T → Al c s.heap X → FrameOK s.heap T env sc σ X → wpAny (model c.prog c.w) A (eval e env) (Res c s T X d) noE s
noncomputable def TrS (c : Cx) (A : Around) (env : Env) (sc : Scope) (σ : Sig) (X : Addr → Prop) (f : Expr → Option Bool) : Prop :=
  ∀ e b s T, f e = some b → Ok c s T → Al c s.heap X → FrameOK s.heap T env sc σ X → wpAny (model c.prog c.w) A (isTrue e env (eval e env)) (ResB c s T b) noE s

set_option tactic.hygienic true
theorem seqM_ok {f : Expr → Option D} (E : EvS c A env sc σ X f) (pos : Pos) : ∀ (es : List Expr) (ds : List D) (s : Shared) (T : Gh), seqM f es = some ds → Ok c s T → Al c s.heap X → FrameOK s.heap T env sc σ X →
    wpAny (model c.prog c.w) A (spliced (backTo pos (starEach es env))) (ResL c s T X ds) noE s
  | [], ds, s, T, h, g, hX, F => by
    simp only [seqM] at h; cases h
    exact wpAny_items_nil ⟨T, Step.refl c s T, by simp only [RpL]⟩
  | e :: es, ds, s, T, h, g, hX, F => by
    simp only [seqM] at h
    split at h
    · rename_i d hd
      rw [Option.map_eq_some_iff] at h
      obtain ⟨ds', h', rfl⟩ := h
      refine wpAny_items_cons ?_ (starEach_plain (E.plain _ _ hd))
      refine bindR g (E.ok _ _ _ _ hd g hX F) fun v s₁ T₁ g₁ st r => ?_
      refine wpAny_mono (seqM_ok E pos es ds' s₁ T₁ h' g₁ (st.al hX) (F.step g.gd st)) (fun vs s₂ ⟨T₂, st₂, r₂⟩ => ?_) fun zz zz e => e
      exact ⟨T₂, st.trans st₂, RpL.cons_iff.mpr ⟨st₂.rp g₁.gd r, r₂⟩⟩
    · cases h

set_option tactic.hygienic false
theorem wpAny_release {M : Model} {E : Value → Shared → Prop} {vs keep : List Value} {Q : Unit → Shared → Prop} (h : Q () s) : wpAny M A (release vs keep) Q E s := fun Γ p hΓ => by
  rw [Sem.wp_release]; exact h
theorem cc1 (pos : Pos) (l : Value) (op : CmpOp) (r : Sem Value) : compareChain pos l [op] [r] = (holding [l] r >>= fun rv => standAt pos >>= fun zz => operate [l, rv] (compareOp op l rv)) := rfl
theorem tc1 (pos : Pos) (l : Value) (op : CmpOp) (r : Sem Value) : testChain pos l [op] [r] = (holding [l] r >>= fun rv => standAt pos >>= fun zz => operate [l, rv] (compareOp op l rv) >>= fun c => holding [c] (truthy c)) := rfl
theorem cc2 (pos : Pos) (l : Value) (op op' : CmpOp) (ops : List CmpOp) (r t : Sem Value) (ts : List (Sem Value)) : compareChain pos l (op :: op' :: ops) (r :: t :: ts) = (holding [l] r >>= fun rv => standAt pos >>= fun zz => holding [l, rv] (compareOp op l rv) >>= fun c => release [l, rv] [c] >>= fun zz => holding [c, rv] (truthy c) >>= fun b => if b = true then compareChain pos rv (op' :: ops) (t :: ts) else pure c) := rfl
theorem tc2 (pos : Pos) (l : Value) (op op' : CmpOp) (ops : List CmpOp) (r t : Sem Value) (ts : List (Sem Value)) : testChain pos l (op :: op' :: ops) (r :: t :: ts) = (holding [l] r >>= fun rv => standAt pos >>= fun zz => holding [l, rv] (compareOp op l rv) >>= fun c => release [l, rv] [c] >>= fun zz => holding [c, rv] (truthy c) >>= fun b => if b = true then testChain pos rv (op' :: ops) (t :: ts) else pure false) := rfl
theorem chain_ok {k : Nat} {f : Expr → Option D} (E : EvS c A env sc σ X f) (hr : Room A k) (pos : Pos) : ∀ (ops : List CmpOp) (es : List Expr) (l : D) (lv : Value) (b : Bool) (s : Shared) (T : Gh), chainT f l ops es = some b → Ok c s T → Al c s.heap X →
    FrameOK s.heap T env sc σ X → Rp s.heap T X l lv →
    wpAny (model c.prog c.w) A (compareChain pos lv ops (markedEach ops es (evalEach es env))) (Res c s T X (.bool b)) noE s ∧
    wpAny (model c.prog c.w) A (testChain pos lv ops (markedEach ops es (evalEach es env))) (ResB c s T b) noE s
  | [], es, l, lv, b, s, T, h, g, hX, F, hl => noneE h
  | [op], [], l, lv, b, s, T, h, g, hX, F, hl => noneE h
  | [op], [e], l, lv, b, s, T, h, g, hX, F, hl => by
    obtain ⟨r, h1, h2⟩ := Option.bind_eq_some_iff.mp (show (f e).bind (fun r => cmpD op l r) = some b from h)
    have hm : markedEach [op] [e] (evalEach [e] env) = [eval e env] := by
      show [markedBehindIn op e (eval e env)] = _
      rw [markedBehindIn_of_false (marks_plain (E.plain _ _ h1))]
    rw [hm]
    constructor
    · rw [cc1]
      refine wpAny_bind (wpAny_holding (bindR g (E.ok _ _ _ _ h1 g hX F) fun v s₁ T₁ g₁ st r₁ => wpAny_bind (wpAny_standAt (wpAny_operating (wpAny_mono (cmpD_sound g₁ hr h2 (st.rp g.gd hl) r₁) (fun w s₂ ⟨e1, e2⟩ => ?_) fun zz zz e => e)))))
      subst e1 e2
      exact st.res (res_bool b)
    · rw [tc1]
      refine wpAny_bind (wpAny_holding (bindR g (E.ok _ _ _ _ h1 g hX F) fun v s₁ T₁ g₁ st r₁ => wpAny_bind (wpAny_standAt (wpAny_bind (wpAny_operating (wpAny_mono (cmpD_sound g₁ hr h2 (st.rp g.gd hl) r₁) (fun w s₂ ⟨e1, e2⟩ => ?_) fun zz zz e => e))))))
      subst e1 e2
      exact wpAny_holding (wpAny_truthy_bool ⟨rfl, T₁, st⟩)
  | [op], e :: e' :: es, l, lv, b, s, T, h, g, hX, F, hl => noneE h
  | op :: op' :: ops, [], l, lv, b, s, T, h, g, hX, F, hl => noneE h
  | op :: op' :: ops, [e], l, lv, b, s, T, h, g, hX, F, hl => noneE h
  | op :: op' :: ops, e :: e' :: es, l, lv, b, s, T, h, g, hX, F, hl => by
    obtain ⟨r, h1, h2⟩ := Option.bind_eq_some_iff.mp (show (f e).bind (fun r => (cmpD op l r).bind fun b => if b = true then chainT f r (op' :: ops) (e' :: es) else some false) = some b from h)
    obtain ⟨q, h3, h4⟩ := Option.bind_eq_some_iff.mp h2
    have hm : markedEach (op :: op' :: ops) (e :: e' :: es) (evalEach (e :: e' :: es) env) = eval e env :: markedEach (op' :: ops) (e' :: es) (evalEach (e' :: es) env) := rfl
    rw [hm]
    have hne : ∃ t ts, markedEach (op' :: ops) (e' :: es) (evalEach (e' :: es) env) = t :: ts := by
      cases ops with
      | nil => cases es with
        | nil => exact ⟨_, _, rfl⟩
        | cons _ _ => exact ⟨_, _, rfl⟩
      | cons _ _ => exact ⟨_, _, rfl⟩
    obtain ⟨t, ts, ht⟩ := hne
    constructor
    · rw [ht, cc2]
      · refine wpAny_bind (wpAny_holding (bindR g (E.ok _ _ _ _ h1 g hX F) fun v s₁ T₁ g₁ st r₁ => wpAny_bind (wpAny_standAt (wpAny_bind (wpAny_holding (wpAny_mono (cmpD_sound g₁ hr h3 (st.rp g.gd hl) r₁) (fun w s₂ ⟨e1, e2⟩ => ?_) fun zz zz e => e))))))
        subst e1 e2
        refine wpAny_bind (wpAny_release ?_)
        refine wpAny_bind (wpAny_holding (wpAny_truthy_bool ?_))
        cases q with
        | false => cases h4; exact wpAny_pure (st.res (res_bool _))
        | true =>
          rw [← ht]
          exact wpAny_mono (chain_ok E hr pos (op' :: ops) (e' :: es) r v b _ T₁ h4 g₁ (st.al hX) (F.step g.gd st) r₁).1 (fun zz zz q => st.res q) fun zz zz e => e
    · rw [ht, tc2]
      · refine wpAny_bind (wpAny_holding (bindR g (E.ok _ _ _ _ h1 g hX F) fun v s₁ T₁ g₁ st r₁ => wpAny_bind (wpAny_standAt (wpAny_bind (wpAny_holding (wpAny_mono (cmpD_sound g₁ hr h3 (st.rp g.gd hl) r₁) (fun w s₂ ⟨e1, e2⟩ => ?_) fun zz zz e => e))))))
        subst e1 e2
        refine wpAny_bind (wpAny_release ?_)
        refine wpAny_bind (wpAny_holding (wpAny_truthy_bool ?_))
        cases q with
        | false => cases h4; exact wpAny_pure ⟨rfl, T₁, st⟩
        | true =>
          rw [← ht]
          exact wpAny_mono (chain_ok E hr pos (op' :: ops) (e' :: es) r v b _ T₁ h4 g₁ (st.al hX) (F.step g.gd st) r₁).2 (fun zz zz q => st.resB q) fun zz zz e => e

theorem allT_ok {f : Expr → Option Bool} (E : TrS c A env sc σ X f) (op : BoolOp) : ∀ (es : List Expr) (b : Bool) (s : Shared) (T : Gh), allT f op es = some b → Ok c s T → Al c s.heap X → FrameOK s.heap T env sc σ X →
    wpAny (model c.prog c.w) A (allTrue op es env) (ResB c s T b) noE s
  | [], b, s, T, h, g, hX, F => by
    simp only [allT] at h; cases h
    cases op
    · exact wpAny_allTrue_And_nil ⟨rfl, T, Step.refl c s T⟩
    · exact wpAny_allTrue_Or_nil ⟨rfl, T, Step.refl c s T⟩
  | e :: es, b, s, T, h, g, hX, F => by
    simp only [allT] at h
    cases op
    · refine wpAny_allTrue_And_cons ?_
      cases hf : f e with
      | none => rw [hf] at h; cases h
      | some q =>
        refine wpAny_mono (E _ _ _ _ hf g hX F) (fun r s' ⟨e1, T', st⟩ => ?_) fun zz zz e => e
        subst e1
        rw [hf] at h
        cases r with
        | false => cases h; exact ⟨rfl, T', st⟩
        | true => exact wpAny_mono (allT_ok E .And es b s' T' h (st.ok g) (st.al hX) (F.step g.gd st)) (fun zz zz q => st.resB q) fun zz zz e => e
    · refine wpAny_allTrue_Or_cons ?_
      cases hf : f e with
      | none => rw [hf] at h; cases h
      | some q =>
        refine wpAny_mono (E _ _ _ _ hf g hX F) (fun r s' ⟨e1, T', st⟩ => ?_) fun zz zz e => e
        subst e1
        rw [hf] at h
        cases r with
        | true => cases h; exact ⟨rfl, T', st⟩
        | false => exact wpAny_mono (allT_ok E .Or es b s' T' h (st.ok g) (st.al hX) (F.step g.gd st)) (fun zz zz q => st.resB q) fun zz zz e => e

theorem name_ok {x : Str} {pos : Pos} {d : D} (g : Ok c s T) (F : FrameOK s.heap T env sc σ X) (h : σ x = some d) (hd : (x == ("__debug__" : Str) || x == ("__classdict__" : Str)) = false) :
    wpAny (model c.prog c.w) A (eval (.Name x pos) env) (Res c s T X d) noE s := by
  rw [Bool.or_eq_false_iff] at hd
  obtain ⟨v, hb, hr⟩ := F.has x d h
  refine wpAny_Name ?_ hd.1
  rcases hb with ⟨h1, m, h2, h3⟩ | ⟨h1 | h1, a, h2, h3⟩
  · exact wpAny_loadName_local F.eok.kind h1 h2 h3 (res_val hr)
  · exact wpAny_loadName_cell F.eok.kind h1 h2 h3 (res_val hr)
  · exact wpAny_loadName_free F.eok.kind h1 h2 h3 (res_val hr) hd.2

theorem glob_ok {x : Str} {pos : Pos} {v : Value} {Q : Value → Shared → Prop} (g : Ok c s T) (F : EnvOK env sc) (hg : isGlob sc x = true) (hd : (x == ("__debug__" : Str)) = false) (hv : c.mg x = some v) (h : Q v s) :
    wpAny (model c.prog c.w) A (eval (.Name x pos) env) Q noE s := by
  refine Calls.Name_function_global F.kind (F.gk x (beq_iff_eq.mp hg)) ?_ hd
  unfold loadGlobal
  refine wpAny_bind (wpAny_nsGet (by rw [F.glob]; exact g.gd.g) ?_)
  rw [hv]; exact wpAny_pure h
theorem blt_ok {x : Str} {pos : Pos} {v : Value} {Q : Value → Shared → Prop} (g : Ok c s T) (F : EnvOK env sc) (hg : isGlob sc x = true) (hd : (x == ("__debug__" : Str)) = false) (hn : c.mg x = none) (hv : c.mb x = some v) (h : Q v s) :
    wpAny (model c.prog c.w) A (eval (.Name x pos) env) Q noE s := by
  refine Calls.Name_function_global F.kind (F.gk x (beq_iff_eq.mp hg)) ?_ hd
  unfold loadGlobal
  refine wpAny_bind (wpAny_nsGet (by rw [F.glob]; exact g.gd.g) ?_)
  rw [hn]
  refine wpAny_bind (wpAny_nsGet (by rw [F.bltn]; exact g.gd.b) ?_)
  rw [hv]; exact wpAny_pure h

end Mine
end

section
open PySem PySem.W PyProof.Rows PySem.SeqAt
set_option maxRecDepth 100000
namespace Mine
variable {c : Cx} {A : Around} {s : Shared} {T : Gh} {X : Addr → Prop} {env : Env} {sc : Scope} {σ : Sig}

noncomputable def notSl : Expr → Bool
  | .Slice .. => false
  | _ => true
set_option tactic.hygienic false
theorem sub_plain {slice : Expr} {o i : Value} (h : notSl slice = true) : subscripted slice false o i = operate [o, i] (getItem o i) := by
  cases slice <;> first | rfl | cases h
theorem let_str {value : Expr} {x : Str} {t : Tok} (r : Value) : letTemporaryGo value (.str x t) r = pure () := by cases value <;> rfl

noncomputable def IdxS (c : Cx) (A : Around) (s : Shared) (T : Gh) (X : Addr → Prop) (value slice : Expr) (o i : Value) (d a b : D) : Prop := idxD a b = some d → Rp s.heap T X a o → Rp s.heap T X b i → wpAny (model c.prog c.w) A (subscriptTail value slice o i) (Res c s T X d) noE s
theorem idxNo {value slice : Expr} {a b d : D} {o i : Value} (h : idxD a b = none) : IdxS c A s T X value slice o i d a b := fun q zz zz => noneE (h.symm.trans q)
set_option tactic.hygienic true
theorem idx_all {value slice : Expr} {a b d : D} {o i : Value} (g : Ok c s T) (hn : notSl slice = true) : IdxS c A s T X value slice o i d a b := by
  cases a with
  | list xs =>
    cases b with
    | int k =>
      intro h ha hb
      replace h : (if 0 ≤ k then xs[k.toNat]? else none) = some d := h
      obtain ⟨hl, l, vs, rfl, _, p, r⟩ := ha; obtain ⟨u, rfl⟩ := hb
      split at h
      · rename_i hk
        obtain ⟨v, hv, hr⟩ := r.get h
        have hlt : k.toNat < vs.length := (List.getElem?_eq_some_iff.mp hv).1
        have := r.length
        unfold big at hl
        exact tail_any p.isList.typeIs slot_list_getitem.lookup (wpAny_getItem_list p.isList hk (by omega) (by simpa using hv) (res_val hr)) (sub_plain hn)
      · cases h
    | _ => exact idxNo (Eq.refl none)
  | tup xs =>
    cases b with
    | int k =>
      intro h ha hb
      replace h : (if 0 ≤ k then xs[k.toNat]? else none) = some d := h
      obtain ⟨hl, l, vs, rfl, _, p, r⟩ := ha; obtain ⟨u, rfl⟩ := hb
      split at h
      · rename_i hk
        obtain ⟨v, hv, hr⟩ := r.get h
        have hlt : k.toNat < vs.length := (List.getElem?_eq_some_iff.mp hv).1
        have := r.length
        unfold big at hl
        have hj : seqIndex? k vs.toArray.size = some k.toNat := by
          unfold seqIndex?; simp; omega
        exact tail_any p.isTuple.typeIs slot_tuple_getitem.lookup (getItem_tuple p.isTuple (by omega) (by omega) hj (by simpa using hv) (res_val hr)) (sub_plain hn)
      · cases h
    | _ => exact idxNo (Eq.refl none)
  | str x =>
    cases b with
    | int k =>
      intro h ha hb
      replace h : (if 0 ≤ k then (x.cps[k.toNat]?).map (fun ch => D.str ⟨#[ch]⟩) else none) = some d := h
      obtain ⟨hl, t, rfl⟩ := ha; obtain ⟨u, rfl⟩ := hb
      split at h
      · rename_i hk
        rw [Option.map_eq_some_iff] at h
        obtain ⟨ch, hc, rfl⟩ := h
        have hlt : k.toNat < x.cps.size := (Array.getElem?_eq_some_iff.mp hc).1
        have hlx : x.length = x.cps.size := rfl
        unfold big at hl
        have hit : Txt.item x k = ⟨#[ch]⟩ := by
          unfold Txt.item Txt.charAt
          have : seqIndex? k x.length = some k.toNat := by unfold seqIndex?; simp; omega
          rw [this]; simp [hc]
        refine item_str (by unfold fitsSsize; simp; omega) (by omega) (by omega) (fun zz => ?_) (sub_plain hn) (fun r => let_str r)
        rw [hit]
        exact res_str (by show 1 ≤ big; decide) (Nat.le_succ _)
      · cases h
    | _ => exact idxNo (Eq.refl none)
  | _ => exact idxNo (Eq.refl none)
set_option tactic.hygienic false
theorem idx_ok {value slice : Expr} {a b d : D} {o i : Value} (g : Ok c s T) (hn : notSl slice = true) (h : idxD a b = some d) (ha : Rp s.heap T X a o) (hb : Rp s.heap T X b i) :
    wpAny (model c.prog c.w) A (subscriptTail value slice o i) (Res c s T X d) noE s := idx_all g hn h ha hb

theorem part_int {k : Int} {t : Tok} : IsPart (.int k t) (some k) := .int k t
set_option tactic.hygienic true
theorem bnd_ok {f : Expr → Option D} (E : EvS c A env sc σ X f) {e : Option Expr} {k : Option Int} (h : bndD' f e = some k) (g : Ok c s T) (hX : Al c s.heap X) (F : FrameOK s.heap T env sc σ X) :
    wpAny (model c.prog c.w) A (evalPart e env) (fun v s' => ∃ T', Step c s T s' T' ∧ IsPart v k) noE s := by
  cases e with
  | none =>
    simp only [bndD'] at h; cases h
    exact wpAny_pure ⟨T, Step.refl c s T, .none⟩
  | some e =>
    simp only [bndD'] at h
    rw [Option.bind_eq_some_iff] at h
    obtain ⟨d, h1, h2⟩ := h
    unfold bndD at h2
    split at h2
    · rename_i heq; cases heq
    · rename_i heq
      cases heq
      split at h2
      · cases h2
        refine bindR g (E.ok _ _ _ _ h1 g hX F) fun v s₁ T₁ g₁ st r => ?_
        simp only [Rp] at r
        obtain ⟨t, rfl⟩ := r
        exact ⟨T₁, st, .int _ _⟩
      · cases h2
    · cases h2

set_option tactic.hygienic false
theorem picked_last (x : Str) (u : Tok) : slicePicked x none (some (-1, u)) none = List.range (x.length - 1) := by
  unfold slicePicked Builtin.Str.strSliceIndices
  simp only [Option.map_none, Option.map_some, Option.getD_none]
  have e1 : (if (1 : Int) > 0 then (0 : Int) else (x.length : Int) - 1) = ((0 : Nat) : Int) := by simp
  have e2 : (if (1 : Int) > 0 then max 0 (min (if (-1 : Int) < 0 then -1 + (x.length : Int) else -1) (x.length : Int)) else max (-1) (min (if (-1 : Int) < 0 then -1 + (x.length : Int) else -1) ((x.length : Int) - 1))) = ((x.length - 1 : Nat) : Int) := by
    rw [if_pos (by decide), if_pos (by decide)]; omega
  rw [e1, e2, sliceRange_one]
  simp
theorem pick_take (x : Str) (k : Nat) : (List.range k).filterMap (x.cps[·]?) = x.cps.toList.take k := by
  have := pick_run x.cps 0 k
  simpa using this

set_option tactic.hygienic true
theorem slice_ok {f : Expr → Option D} (E : EvS c A env sc σ X f) {x : Str} {p sp pos : Pos} {lo hi : Option Expr} {a d : D} {l h : Option Int} (g : Ok c s T) (hX : Al c s.heap X) (F : FrameOK s.heap T env sc σ X)
    (h1 : f (.Name x p) = some a) (h2 : bndD' f lo = some l) (h3 : bndD' f hi = some h) (h4 : sliceD a l h = some d) :
    wpAny (model c.prog c.w) A (eval (.Subscript (.Name x p) (.Slice lo hi none sp) pos) env) (Res c s T X d) noE s := by
  unfold sliceD at h4
  split at h4
  · cases h4
    refine wpAny_Subscript_list_slice (bindR g (E.ok _ _ _ _ h1 g hX F) fun o s₁ T₁ g₁ st₁ r₁ => ?_)
    refine wpAny_mono (bnd_ok E h2 g₁ (st₁.al hX) (F.step g.gd st₁)) (fun vl s₂ ⟨T₂, st₂, pl⟩ => ?_) fun zz zz e => e
    have g₂ := st₂.ok g₁
    have st₁₂ := st₁.trans st₂
    refine wpAny_mono (bnd_ok E h3 g₂ (st₁₂.al hX) (F.step g.gd st₁₂)) (fun vu s₃ ⟨T₃, st₃, pu⟩ => ?_) fun zz zz e => e
    have g₃ := st₃.ok g₂
    have r₃ := st₃.rp g₂.gd (st₂.rp g₁.gd r₁)
    simp only [Rp] at r₃
    obtain ⟨hl, a, vs, rfl, _, pa, rr⟩ := r₃
    have hlen := rr.length
    refine ⟨a, vs.toArray, l, h, rfl, pa.isList, by have := big_le; simp; omega, pl, pu, ?_⟩
    have st4 : Step c s₃ T₃ { s₃ with heap := s₃.heap.push { cls := .type "slice", data := .fields #[vl, vu, .none] } } T₃ := Step.alloc _
    have := rp_newList (c := c) (T := T₃) (st4.ok g₃).gd (st4.al (st₃.al (st₁₂.al hX))) (st4.rpL g₃.gd ((rr.drop (loN vs.length l)).take (hiN vs.length h - loN vs.length l))) (by
      rw [List.length_take, List.length_drop]; omega)
    have := (((st₁₂.trans st₃).trans st4)).res this
    rw [hlen] at this
    rw [slicePick_plain]
    simp only [Heap.size_push, List.size_toArray, hlen] at this ⊢
    exact this
  · rename_i x'
    cases h4
    refine wpAny_Subscript_str_slice (bindR g (E.ok _ _ _ _ h1 g hX F) fun o s₁ T₁ g₁ st₁ r₁ => ?_)
    refine wpAny_mono (bnd_ok E h2 g₁ (st₁.al hX) (F.step g.gd st₁)) (fun vl s₂ ⟨T₂, st₂, pl⟩ => ?_) fun zz zz e => e
    have g₂ := st₂.ok g₁
    have st₁₂ := st₁.trans st₂
    refine wpAny_mono (bnd_ok E h3 g₂ (st₁₂.al hX) (F.step g.gd st₁₂)) (fun vu s₃ ⟨T₃, st₃, pu⟩ => ?_) fun zz zz e => e
    simp only [Rp] at r₁
    obtain ⟨hl, t, rfl⟩ := r₁
    cases pl
    have hu : ∃ u, vu = .int (-1) u := by cases pu; exact ⟨_, rfl⟩
    obtain ⟨u, rfl⟩ := hu
    refine ⟨x', t, none, some (-1, u), rfl, rfl, rfl, ?_⟩
    have st4 : Step c s₃ T₃ { s₃ with heap := s₃.heap.push { cls := .type "slice", data := .fields #[.none, .int (-1) u, .none] } } T₃ := Step.alloc _
    unfold sliceMade
    rw [picked_last, pick_take, List.length_range]
    split
    · rename_i hz
      have hz' : x'.length - 1 = x'.length := by simpa using hz
      have hx0 : x'.cps.toList.length = 0 := by show x'.cps.size = 0; have : x'.length = x'.cps.size := rfl; omega
      have e : (⟨(x'.cps.toList.take (x'.length - 1)).toArray⟩ : Str) = x' := by
        rw [List.take_of_length_le (by omega)]
      rw [e]
      exact (((st₁₂.trans st₃).trans st4)).res (res_val (rp_str hl t))
    · have hlen : (⟨(x'.cps.toList.take (x'.length - 1)).toArray⟩ : Str).length ≤ big := by
        show (x'.cps.toList.take (x'.length - 1)).toArray.size ≤ big
        rw [List.size_toArray, List.length_take]
        have : x'.length = x'.cps.toList.length := rfl
        omega
      exact ⟨Nat.le_trans hlen big_le, (((st₁₂.trans st₃).trans st4)).res (res_str hlen (Nat.le_succ _))⟩
  · cases h4

set_option tactic.hygienic false
theorem rcFgt {a b : UInt64} {t u : Tok} {Q : Value → Shared → Prop} {E : Value → Shared → Prop} (h : Q (.bool (Float64.cmp a b == some Ordering.gt)) s) : wpAny (model c.prog c.w) A (richCompare .Gt (.float a t) (.float b u)) Q E s := AutoFloatOps.gt_0 h
theorem rcFlt {a b : UInt64} {t u : Tok} {Q : Value → Shared → Prop} {E : Value → Shared → Prop} (h : Q (.bool (Float64.cmp a b == some Ordering.lt)) s) : wpAny (model c.prog c.w) A (richCompare .Lt (.float a t) (.float b u)) Q E s := AutoFloatOps.lt_0 h

end Mine
end

section
open PySem PySem.W PyProof.Rows PySem.SeqAt
set_option maxRecDepth 100000
namespace Mine
variable {c : Cx} {A : Around} {s : Shared} {T : Gh} {X : Addr → Prop} {env : Env} {sc : Scope} {σ : Sig}

noncomputable def fl3 (a b e : UInt64) (i : Nat) : UInt64 := if i = 0 then a else if i = 1 then b else e
noncomputable def tk3 (a b e : Tok) (i : Nat) : Tok := if i = 0 then a else if i = 1 then b else e
set_option tactic.hygienic false
theorem item3 {a b e : UInt64} {t u x : Tok} {i : Nat} {v : Value} (h : (#[Value.float a t, .float b u, .float e x] : Array Value)[i]? = some v) : v = .float (fl3 a b e i) (tk3 t u x i) := by
  match i with
  | 0 => simp at h; simp [fl3, tk3, h]
  | 1 => simp at h; simp [fl3, tk3, h]
  | 2 => simp at h; simp [fl3, tk3, h]
  | i + 3 => simp at h

theorem best_max (a b e : UInt64) : argBest (fun i j => Float64.cmp (fl3 a b e i) (fl3 a b e j) == some Ordering.gt) 2 < 3 ∧ fl3 a b e (argBest (fun i j => Float64.cmp (fl3 a b e i) (fl3 a b e j) == some Ordering.gt) 2) = max3 a b e := by
  have f0 : fl3 a b e 0 = a := rfl
  have f1 : fl3 a b e 1 = b := rfl
  have f2 : fl3 a b e 2 = e := rfl
  show (if (Float64.cmp (fl3 a b e 2) (fl3 a b e (if (Float64.cmp (fl3 a b e 1) (fl3 a b e 0) == some Ordering.gt) = true then 1 else 0)) == some Ordering.gt) = true then 2 else (if (Float64.cmp (fl3 a b e 1) (fl3 a b e 0) == some Ordering.gt) = true then 1 else 0)) < 3 ∧
    fl3 a b e (if (Float64.cmp (fl3 a b e 2) (fl3 a b e (if (Float64.cmp (fl3 a b e 1) (fl3 a b e 0) == some Ordering.gt) = true then 1 else 0)) == some Ordering.gt) = true then 2 else (if (Float64.cmp (fl3 a b e 1) (fl3 a b e 0) == some Ordering.gt) = true then 1 else 0)) = max3 a b e
  rw [f0, f1, f2]
  unfold max3
  cases h1 : (Float64.cmp b a == some Ordering.gt)
  · simp only [Bool.false_eq_true, if_false, f0]
    cases h2 : (Float64.cmp e a == some Ordering.gt) <;> simp [f0, f2]
  · simp only [if_true, f1]
    cases h2 : (Float64.cmp e b == some Ordering.gt) <;> simp [f1, f2]
theorem best_min (a b e : UInt64) : argBest (fun i j => Float64.cmp (fl3 a b e i) (fl3 a b e j) == some Ordering.lt) 2 < 3 ∧ fl3 a b e (argBest (fun i j => Float64.cmp (fl3 a b e i) (fl3 a b e j) == some Ordering.lt) 2) = min3 a b e := by
  have f0 : fl3 a b e 0 = a := rfl
  have f1 : fl3 a b e 1 = b := rfl
  have f2 : fl3 a b e 2 = e := rfl
  show (if (Float64.cmp (fl3 a b e 2) (fl3 a b e (if (Float64.cmp (fl3 a b e 1) (fl3 a b e 0) == some Ordering.lt) = true then 1 else 0)) == some Ordering.lt) = true then 2 else (if (Float64.cmp (fl3 a b e 1) (fl3 a b e 0) == some Ordering.lt) = true then 1 else 0)) < 3 ∧
    fl3 a b e (if (Float64.cmp (fl3 a b e 2) (fl3 a b e (if (Float64.cmp (fl3 a b e 1) (fl3 a b e 0) == some Ordering.lt) = true then 1 else 0)) == some Ordering.lt) = true then 2 else (if (Float64.cmp (fl3 a b e 1) (fl3 a b e 0) == some Ordering.lt) = true then 1 else 0)) = min3 a b e
  rw [f0, f1, f2]
  unfold min3
  cases h1 : (Float64.cmp b a == some Ordering.lt)
  · simp only [Bool.false_eq_true, if_false, f0]
    cases h2 : (Float64.cmp e a == some Ordering.lt) <;> simp [f0, f2]
  · simp only [if_true, f1]
    cases h2 : (Float64.cmp e b == some Ordering.lt) <;> simp [f1, f2]

theorem three_F {mx : Bool} {a b e : UInt64} {t u x : Tok} {Q : Value → Shared → Prop} (hh : A.handled = none)
    (h : ∀ h' tk i, (∀ d o, s.heap.get? d = some o → h'.get? d = some o) → i < 3 → fl3 a b e i = (if mx then max3 a b e else min3 a b e) → Q (.float (fl3 a b e i) (tk3 t u x i)) { s with heap := h', toks := tk }) :
    wpAny (model c.prog c.w) A (call (.builtin (if mx then "max" else "min")) [.float a t, .float b u, .float e x]) Q noE s := by
  have hT : (s.heap.push { cls := .type "tuple", data := .seq #[.float a t, .float b u, .float e x] }).IsTuple s.heap.objs.size #[.float a t, .float b u, .float e x] := ⟨_, Heap.get?_push_size _ rfl, rfl, 0, rfl⟩
  have hsz : (s.heap.push { cls := .type "tuple", data := .seq #[.float a t, .float b u, .float e x] }).objs.size = s.heap.objs.size + 1 := Heap.size_push ..
  have hfp : ∀ d ∈ [(s.heap.push { cls := .type "tuple", data := .seq #[.float a t, .float b u, .float e x] }).objs.size, s.heap.objs.size], ∀ o', d < ((s.heap.push { cls := .type "tuple", data := .seq #[.float a t, .float b u, .float e x] }).push o').objs.size := by
    intro d hd o'
    rw [Heap.size_push, hsz]
    simp only [List.mem_cons, List.not_mem_nil, or_false] at hd
    rcases hd with rfl | rfl
    · rw [hsz]; omega
    · omega
  have hold : ∀ (h' : Heap) (o' : Obj), (∀ y o, y ∉ [(s.heap.push { cls := .type "tuple", data := .seq #[.float a t, .float b u, .float e x] }).objs.size] → ((s.heap.push { cls := .type "tuple", data := .seq #[.float a t, .float b u, .float e x] }).push o').get? y = some o → h'.get? y = some o) → ∀ d o, s.heap.get? d = some o → h'.get? d = some o := by
    intro h' o' hk d o q
    refine hk d o (fun hm => ?_) (Heap.get?_push_of_some _ (Heap.get?_push_of_some _ q))
    simp only [List.mem_cons, List.not_mem_nil, or_false] at hm
    have q' : d < s.heap.objs.size := Heap.lt_size q
    have q'' : d = s.heap.objs.size + 1 := hm.trans hsz
    rw [q''] at q'
    exact absurd q' (Nat.not_lt_of_le (Nat.le_succ _))
  cases mx with
  | true =>
    refine call_max_three (wpAny_pyIter_tuple hT ?_)
    refine ⟨_, [_, s.heap.objs.size], [_], _, _, _, fun i j => Float64.cmp (fl3 a b e i) (fl3 a b e j) == some Ordering.gt, rfl, Walks.tuple (A := A.in1) hh _ s.heap.objs.size (by rw [hsz]; exact Nat.ne_of_lt (Nat.lt_succ_self _)) #[.float a t, .float b u, .float e x],
      ⟨⟨_, Heap.get?_push_size _ rfl, rfl, rfl⟩, hT.push _⟩, fun d hd => hfp d hd _, by simp, ?_, fun v h' tk hP hk => ?_⟩
    · intro i j vi vj s' Q' E' hi hj hQ
      rw [item3 hi, item3 hj]
      exact AutoFloatOps.gt_0 hQ
    · rw [item3 hP]
      exact h h' tk _ (hold h' _ hk) (best_max a b e).1 (best_max a b e).2
  | false =>
    refine call_min_three (wpAny_pyIter_tuple hT ?_)
    refine ⟨_, [_, s.heap.objs.size], [_], _, _, _, fun i j => Float64.cmp (fl3 a b e i) (fl3 a b e j) == some Ordering.lt, rfl, Walks.tuple (A := A.in1) hh _ s.heap.objs.size (by rw [hsz]; exact Nat.ne_of_lt (Nat.lt_succ_self _)) #[.float a t, .float b u, .float e x],
      ⟨⟨_, Heap.get?_push_size _ rfl, rfl, rfl⟩, hT.push _⟩, fun d hd => hfp d hd _, by simp, ?_, fun v h' tk hP hk => ?_⟩
    · intro i j vi vj s' Q' E' hi hj hQ
      rw [item3 hi, item3 hj]
      exact AutoFloatOps.lt_0 hQ
    · rw [item3 hP]
      exact h h' tk _ (hold h' _ hk) (best_min a b e).1 (best_min a b e).2

noncomputable def bltV (f : Str) : Value := if f == "len" then .builtin "len" else if f == "sum" then .builtin "sum" else if f == "int" then .type "int" else if f == "max" then .builtin "max" else .builtin "min"
structure Blt (c : Cx) : Prop where
  no : ∀ f ∈ bltNames ++ (["range", "list", "sorted", "enumerate"] : List Str), c.mg f = none
  val : ∀ f ∈ bltNames, c.mb f = some (bltV f)
  range : c.mb "range" = some (.type "range")
  list : c.mb "list" = some (.type "list")
  sorted : c.mb "sorted" = some (.builtin "sorted")
  enumerate : c.mb "enumerate" = some (.type "enumerate")

set_option tactic.hygienic true
theorem intsD_get : ∀ {xs : List D} {l : List Int} {h : Heap} {vs : List Value}, intsD xs = some l → RpL h T X xs vs → IntsAre vs l
  | [], l, h, vs, e, H => by simp only [intsD] at e; cases e; simp only [RpL] at H; subst H; exact .nil
  | d :: xs, l, h, vs, e, H => by
    unfold intsD at e
    split at e
    · rename_i q; cases q
    · rename_i i r q; cases q
      rw [Option.map_eq_some_iff] at e
      obtain ⟨l', e', rfl⟩ := e
      simp only [RpL] at H
      obtain ⟨v, vs', rfl, h1, h2⟩ := H
      simp only [Rp] at h1
      obtain ⟨t, rfl⟩ := h1
      exact .cons _ _ (intsD_get e' h2)
    · cases e
theorem strsD_get : ∀ {xs : List D} {l : List Str} {h : Heap} {vs : List Value}, strsD xs = some l → RpL h T X xs vs → ∃ ps : List (Str × Tok), vs = strValues ps ∧ ps.map (·.1) = l
  | [], l, h, vs, e, H => by simp only [strsD] at e; cases e; simp only [RpL] at H; subst H; exact ⟨[], rfl, rfl⟩
  | d :: xs, l, h, vs, e, H => by
    unfold strsD at e
    split at e
    · rename_i q; cases q
    · rename_i i r q; cases q
      rw [Option.map_eq_some_iff] at e
      obtain ⟨l', e', rfl⟩ := e
      simp only [RpL] at H
      obtain ⟨v, vs', rfl, h1, h2⟩ := H
      simp only [Rp] at h1
      obtain ⟨_, t, rfl⟩ := h1
      obtain ⟨ps, rfl, rfl⟩ := strsD_get e' h2
      exact ⟨(i, t) :: ps, rfl, rfl⟩
    · cases e

theorem blt_call {f : Str} {ds : List D} {d : D} {vs : List Value} {k : Nat} (g : Ok c s T) (hr : Room A k) (hX : Al c s.heap X) (h : bltD f ds = some d) (H : RpL s.heap T X ds vs) :
    wpAny (model c.prog c.w) A (call (bltV f) vs) (Res c s T X d) noE s := by
  unfold bltD at h
  split at h
  · rename_i hf
    unfold bltV; rw [if_pos hf]
    split at h
    · simp only [RpL] at H
      obtain ⟨v, _, rfl, h1, rfl⟩ := H
      simp only [Rp] at h1
      obtain ⟨hl, a, us, rfl, _, p, r⟩ := h1
      cases h
      have := r.length
      unfold big at hl
      refine Calls.call_len_list p.isList (by simp; omega) ?_
      have := res_tok (c := c) (s := s) (T := T) (X := X) (t := s.toks + 1 + 1) (rp_int (h := s.heap) (T := T) (X := X) (us.toArray.size : Int) (s.toks + 1)) (by omega)
      simpa [r.length] using this
    · simp only [RpL] at H
      obtain ⟨v, _, rfl, h1, rfl⟩ := H
      simp only [Rp] at h1
      obtain ⟨hl, t, rfl⟩ := h1
      cases h
      unfold big at hl
      exact PyProof.Rows.len_str (by omega) (res_tok (rp_int _ _) (by omega))
    · cases h
  split at h
  · rename_i h0 hf
    unfold bltV; rw [if_neg h0, if_pos hf]
    split at h
    · simp only [RpL] at H
      obtain ⟨v, _, rfl, h1, rfl⟩ := H
      simp only [Rp] at h1
      obtain ⟨hl, a, us, rfl, _, p, r⟩ := h1
      rw [Option.map_eq_some_iff] at h
      obtain ⟨l, e, rfl⟩ := h
      have hi := intsD_get e r
      obtain ⟨xs, hxs⟩ := hi.allInts.items
      have hsum : preSum (numAt xs) xs.size = l.sum := by
        have e1 := hi.numsOf
        have e2 : numsOf us = numsOf (intItems xs).toList := by rw [← hxs]
        rw [preSum_eq, List.take_of_length_le (by simp), ← nums_intItems, ← e2, e1]
      refine leaf (sum_intListG hr.handled (hxs ▸ p.isList) fun h' tk t' hk htk => ?_)
      rw [hsum]
      exact ⟨T, Step.of_push hk htk, rp_int _ _⟩
    · cases h
  split at h
  · rename_i h0 h0' hf
    unfold bltV; rw [if_neg h0, if_neg h0', if_pos hf]
    split at h
    · simp only [RpL] at H
      obtain ⟨v, _, rfl, h1, rfl⟩ := H
      simp only [Rp] at h1
      obtain ⟨t, rfl, _⟩ := h1
      split at h
      · rename_i hd
        cases h
        exact call_int_float hd (res_int _)
      · cases h
    · cases h
  split at h
  · rename_i h0 h0' h0'' hf
    unfold bltV; rw [if_neg h0, if_neg h0', if_neg h0'', if_pos hf]
    split at h
    · simp only [RpL] at H
      obtain ⟨v, _, rfl, h1, v2, _, rfl, h2, v3, _, rfl, h3, rfl⟩ := H
      simp only [Rp] at h1 h2 h3
      obtain ⟨t1, rfl, q1⟩ := h1; obtain ⟨t2, rfl, q2⟩ := h2; obtain ⟨t3, rfl, q3⟩ := h3
      cases h
      refine leaf (three_F (mx := true) hr.handled fun h' tk i hk hi e htk => ⟨T, Step.of_push hk htk, ?_⟩)
      rw [if_pos rfl] at e
      rw [← e]; simp only [Rp]
      refine ⟨_, rfl, ?_⟩
      match i, hi with
      | 0, _ => exact q1
      | 1, _ => exact q2
      | 2, _ => exact q3
    · cases h
  split at h
  · rename_i h0 h0' h0'' h3 hf
    unfold bltV; rw [if_neg h0, if_neg h0', if_neg h0'', if_neg h3]
    split at h
    · simp only [RpL] at H
      obtain ⟨v, _, rfl, h1, v2, _, rfl, h2, v3, _, rfl, h3, rfl⟩ := H
      simp only [Rp] at h1 h2 h3
      obtain ⟨t1, rfl, q1⟩ := h1; obtain ⟨t2, rfl, q2⟩ := h2; obtain ⟨t3, rfl, q3⟩ := h3
      cases h
      refine leaf (three_F (mx := false) hr.handled fun h' tk i hk hi e htk => ⟨T, Step.of_push hk htk, ?_⟩)
      rw [if_neg (by decide)] at e
      rw [← e]; simp only [Rp]
      refine ⟨_, rfl, ?_⟩
      match i, hi with
      | 0, _ => exact q1
      | 1, _ => exact q2
      | 2, _ => exact q3
    · cases h
  · cases h

end Mine
end

section
open PySem PySem.W PyProof.Rows PySem.SeqAt
set_option maxRecDepth 100000
namespace Mine
variable {c : Cx} {A : Around} {s : Shared} {T : Gh} {X : Addr → Prop} {env : Env} {sc : Scope} {σ : Sig}

set_option tactic.hygienic false
theorem base_simple {o : Expr} {name : Str} (h : simpleE o = true) : attributeBase o name env (eval o env) = eval o env := by
  cases o <;> first | rfl | cases h
theorem star1 {e : Expr} (h : plainE e = true) : starEach [e] env = [(false, eval e env)] := starEach_plain h

set_option tactic.hygienic true
theorem meth_ok {f : Expr → Option D} (E : EvS c A env sc σ X f) {k : Nat} (hr : Room A k) {o e : Expr} {name : Str} {apos pos : Pos} {a b d : D} (g : Ok c s T) (hX : Al c s.heap X) (F : FrameOK s.heap T env sc σ X)
    (hs : simpleE o = true) (hl : (apos.endLine == pos.line) = true) (h1 : f o = some a) (h2 : f e = some b) (h3 : methD a name [b] = some d) :
    wpAny (model c.prog c.w) A (eval (.Call (.Attribute o name apos) [e] [] pos) env) (Res c s T X d) noE s := by
  refine Call_method1 (base_simple hs) (star1 (E.plain _ _ h2)) hl ?_
  refine bindR g (E.ok _ _ _ _ h1 g hX F) fun ov s₁ T₁ g₁ st₁ r₁ => ?_
  have ev2 := E.ok _ _ _ _ h2 g₁ (st₁.al hX) (F.step g.gd st₁)
  unfold methD at h3
  split at h3
  · rename_i hn
    rw [beq_iff_eq] at hn; subst hn
    split at h3
    · rename_i heq; cases heq
      rw [Option.bind_eq_some_iff] at h3
      obtain ⟨l, e1, e2⟩ := h3
      split at e2
      · rename_i hok
        obtain ⟨hlen, rfl⟩ := strD_some e2
        simp only [Rp] at r₁
        obtain ⟨_, t, rfl⟩ := r₁
        refine ⟨"str", "str.join", PySem.F.plainAttrs_str, PySem.F.slot_str_join, PySem.F.type_str_join, typeIs_str _ _ _, (fun zz e => nomatch e), ?_⟩
        refine Calls.callWith_builtin rfl (Calls.evalArgs_plain (Calls.spliced_cons (bindR g₁ ev2 fun v s₂ T₂ g₂ st₂ r₂ => Calls.spliced_nil ?_)))
        simp only [Rp] at r₂
        obtain ⟨_, q, vs, rfl, _, p, r⟩ := r₂
        obtain ⟨ps, rfl, rfl⟩ := strsD_get e1 r
        exact leaf (SC.join p.isList rfl hok fun t' k hk => (st₁.trans st₂).res (res_str hlen hk))
      · cases e2
    · cases h3
  split at h3
  · rename_i hn0 hn
    rw [beq_iff_eq] at hn; subst hn
    split at h3
    · rename_i heq; cases heq; cases h3
      simp only [Rp] at r₁
      obtain ⟨_, t, rfl⟩ := r₁
      refine SB.count (bindR g₁ ev2 fun v s₂ T₂ g₂ st₂ r₂ => ?_)
      simp only [Rp] at r₂
      obtain ⟨_, u, rfl⟩ := r₂
      exact ⟨_, u, rfl, (st₁.trans st₂).res (res_int _)⟩
    · rename_i xs x heq
      cases heq
      have hq : ∃ q : Nat, cntD b xs = some q ∧ d = .int (q : Int) := by
        cases e1 : cntD b xs with
        | none => rw [e1] at h3; cases h3
        | some q => rw [e1] at h3; cases h3; exact ⟨q, rfl, rfl⟩
      obtain ⟨q, e1, rfl⟩ := hq
      simp only [Rp] at r₁
      obtain ⟨hlx, l, vs, rfl, hlX, ⟨n, p⟩, r⟩ := r₁
      refine ⟨"list", "list.count", PySem.F.plainAttrs_list, PySem.F.slot_list_count, PySem.F.type_list_count, ⟨_, p, rfl⟩, fun a e => by cases e; exact ⟨_, p, rfl⟩, ?_⟩
      refine seqMethod1_meets PySem.F.slot_list_count PySem.F.entry_list_count (bindR g₁ ev2 fun v s₂ T₂ g₂ st₂ r₂ => ?_)
      have hp : l ≠ c.P := g₁.gd.notP p (by intro q; cases q)
      have p₂ := st₂.keep _ _ hp p
      have rr := st₂.rpL g₁.gd r
      obtain ⟨h4, h5⟩ := cntD_get _ _ e1
      refine ⟨⟨_, p₂, rfl⟩, PySem.F.args_list_count_2 _ _, _, list_countAt l vs.toArray n none #[] v (onV s₂.heap T₂ X fun d => (eqD d b).getD false), p₂, fun y hy => ?_, ?_⟩
      · obtain ⟨d', hd, hy'⟩ := rr.mem (by simpa using hy)
        obtain ⟨e', he⟩ := h4 d' hd
        rw [onV_is d' y hy', he]
        exact (eqN_at g₂ 4 A.in1 _ _ _ _ _ (by show A.units + 1 + 4 < 9900; have := hr.3; omega) hy' r₂ he).1
      · have := (RpL.any (fun d => (eqD d b).getD false) _ onV_is rr).2
        show Res c s T X (.int (q : Int)) (.int ((vs.toArray.toList.countP _ : Nat) : Int) _) _
        rw [← h5, ← this]
        exact (st₁.trans st₂).res (res_int _)
    · cases h3
  split at h3
  · rename_i hn0 hn1 hn
    rw [beq_iff_eq] at hn; subst hn
    split at h3
    · rename_i heq; cases heq; cases h3
      simp only [Rp] at r₁
      obtain ⟨_, t, rfl⟩ := r₁
      refine SB.find (bindR g₁ ev2 fun v s₂ T₂ g₂ st₂ r₂ => ?_)
      simp only [Rp] at r₂
      obtain ⟨_, u, rfl⟩ := r₂
      exact ⟨_, u, rfl, (st₁.trans st₂).res (res_int _)⟩
    · cases h3
  · cases h3

end Mine
end

section
open PySem PySem.W PyProof.Rows PySem.SeqAt
set_option maxRecDepth 100000
namespace Mine
variable {c : Cx} {A : Around} {s : Shared} {T : Gh} {X : Addr → Prop} {env : Env} {sc : Scope} {σ : Sig}

set_option tactic.hygienic false
theorem Gd.fresh {h₀ h h' : Heap} {d : Addr} (g₀ : Gd c h₀) (g : Gd c h) (k : ∀ b o, b ≠ c.P → h₀.get? b = some o → h.get? b = some o) (hd : h₀.get? d = none) (hc : ¬ h.CodeRec (.ref d) c.qual) (hs : Heap.SameBut d h h') : Gd c h' := by
  have hP : c.P ≠ d := by
    obtain ⟨ps, q, _⟩ := g₀.tab
    rintro q'; rw [q', hd] at q; cases q
  have k' : ∀ b o, b ≠ c.P → h₀.get? b = some o → h'.get? b = some o := fun b o hb e => by
    have : b ≠ d := by rintro rfl; rw [hd] at e; cases e
    rw [hs.2 b this]; exact k b o hb e
  obtain ⟨ps₀, hP₀, _⟩ := g₀.tab
  obtain ⟨g1, g2, g3, g4, g5, g6, g7, g8, g9⟩ := g₀
  have rec' : ∀ cd q, h₀.CodeRec cd q → (∀ a, cd = .ref a → a ≠ c.P) → h'.CodeRec cd q := by
    rintro cd q ⟨a, o, vs, t, rfl, e, r⟩ ha
    exact ⟨a, o, vs, t, rfl, k' a o (ha a rfl) e, r⟩
  have notP : ∀ a o, h₀.get? a = some o → o.cls ≠ .none → a ≠ c.P := fun a o e hc q => by
    subst q; rw [hP₀] at e; cases e; exact hc rfl
  have hdn : ∀ a m, h₀.Ns a m → h'.Ns a m := fun a m x => Ns.but x hP₀ k'
  refine ⟨hdn _ _ g1, hdn _ _ g2, ?_, ?_, fun dd hdd => ?_, ?_, ?_, ?_, ?_⟩
  · obtain ⟨mc, q1, q2⟩ := g3; exact ⟨mc, hdn _ _ q1, q2⟩
  · obtain ⟨mc, q1, q2⟩ := g4; exact ⟨mc, hdn _ _ q1, q2⟩
  · obtain ⟨a, o, pm, code, doc, q1, q2, q3, q4⟩ := g5 dd hdd
    refine ⟨a, o, pm, code, doc, q1, k' a o (fun q => ?_) q2, q3, ?_⟩
    · subst q; rw [hP₀] at q2; cases q2; cases q3
    · obtain ⟨a', o', vs, t, rfl, e, r1, r2⟩ := q4
      refine ⟨a', o', vs, t, rfl, k' a' o' (fun q => ?_) e, r1, r2⟩
      subst q; rw [hP₀] at e; cases e; cases r1
      obtain ⟨ps, qq, hh⟩ := g8
      rw [hP₀] at qq; cases qq
      rcases hh with rfl | ⟨c', rfl, _⟩
      · simp at r2
      · simp [rawInt] at r2
  · obtain ⟨a, o, fd, q1, q2, q3, q4⟩ := g6
    exact ⟨a, o, fd, q1, k' a o (fun q => by subst q; rw [hP₀] at q2; cases q2; cases q3) q2, q3, q4⟩
  · obtain ⟨o, vs, file, tf, flags, tg, inF, text, tt, e, r⟩ := g7
    exact ⟨o, vs, file, tf, flags, tg, inF, text, tt, k' _ _ (notP _ _ e (by rw [r.1]; intro q; cases q)) e, r⟩
  · obtain ⟨ps, q1, q2⟩ := g.tab
    refine ⟨ps, by rw [hs.2 _ hP]; exact q1, q2.imp id ?_⟩
    rintro ⟨c', e, r⟩
    refine ⟨c', e, ?_⟩
    obtain ⟨a', o', vs, t, e', e2, r1, r2⟩ := r
    cases e'
    refine ⟨c', o', vs, t, rfl, ?_, r1, r2⟩
    rw [hs.2 c' (fun q => by subst q; exact hc ⟨c', o', vs, t, rfl, e2, r1, r2⟩)]; exact e2
  · obtain ⟨bm, ob, q1, q2, q3, q4⟩ := g9
    exact ⟨bm, ob, q1, q2, k' bm ob (notP _ _ q3 (by rw [q4.1]; intro q; cases q)) q3, q4⟩

theorem Step.inner {s' : Shared} {T' : Gh} {d : Addr} {h' : Heap} {t : Nat} (x : Step c s T s' T') (g : Ok c s T) (hd : s.heap.get? d = none) (hc : ¬ s'.heap.CodeRec (.ref d) c.qual) (hs : Heap.SameBut d s'.heap h') (ht : s'.toks ≤ t) :
    Step c s T { s' with heap := h', toks := t } T' := by
  refine ⟨fun b o hb e => ?_, Nat.le_trans x.tk ht, x.le, fun zz => ?_, x.os, x.gsz, x.gold, x.gnew⟩
  · have : b ≠ d := by rintro rfl; rw [hd] at e; cases e
    show h'.get? b = some o
    rw [hs.2 b this]; exact x.keep b o hb e
  · have g' := x.ok g
    exact ⟨Gd.fresh g.gd g'.gd x.keep hd hc hs, Nat.lt_of_lt_of_le g'.pos ht, fun t' z e => ⟨Nat.lt_of_lt_of_le (g'.tv t' z e).1 ht, (g'.tv t' z e).2⟩⟩
theorem notRec_dict {h : Heap} {d : Addr} {o : Obj} {q : Str} (e : h.get? d = some o) (hd : ∀ vs, o.data ≠ .fields vs) : ¬ h.CodeRec (.ref d) q := by
  rintro ⟨a, o', vs, t, e1, e2, e3, _⟩
  cases e1; rw [e] at e2; cases e2; exact hd _ e3
theorem Gd.ne_of_none {h : Heap} (g : Gd c h) {d : Addr} (hd : h.get? d = none) : d ≠ c.P := by
  obtain ⟨ps, q, _⟩ := g.tab
  rintro rfl; rw [hd] at q; cases q

theorem Rp.same {h h' : Heap} {d : Addr} {dd : D} {v : Value} {o : Obj} (H : Rp h T X dd v) (hs : Heap.SameBut d h h') (e : h.get? d = some o) (hc : o.cls ≠ .type "list" ∧ o.cls ≠ .type "tuple") : Rp h' T X dd v :=
  H.ext (fun zz zz e => e) fun b o' hb e' hc' zz => ⟨hb, by
    have : b ≠ d := by
      rintro rfl; rw [e] at e'; cases e'
      rcases hc' with q | q
      · exact hc.1 q
      · exact hc.2 q
    rw [hs.2 b this]; exact e'⟩
theorem RpL.same {h h' : Heap} {d : Addr} {dd : List D} {v : List Value} {o : Obj} (H : RpL h T X dd v) (hs : Heap.SameBut d h h') (e : h.get? d = some o) (hc : o.cls ≠ .type "list" ∧ o.cls ≠ .type "tuple") : RpL h' T X dd v :=
  H.ext (fun zz zz e => e) fun b o' hb e' hc' zz => ⟨hb, by
    have : b ≠ d := by
      rintro rfl; rw [e] at e'; cases e'
      rcases hc' with q | q
      · exact hc.1 q
      · exact hc.2 q
    rw [hs.2 b this]; exact e'⟩

theorem dict_ok {f : Expr → Option D} (E : EvS c A env sc σ X f) {k₁ k₂ v₁ v₂ a b : Expr} {dp apos pos : Pos} {i j q : Int} {d₁ d₂ db d : D} (g : Ok c s T) (hX : Al c s.heap X) (F : FrameOK s.heap T env sc σ X)
    (hl : (apos.endLine == pos.line) = true) (e1 : f k₁ = some (.int i)) (e2 : f v₁ = some d₁) (e3 : f k₂ = some (.int j)) (e4 : f v₂ = some d₂) (e5 : f a = some (.int q)) (e6 : f b = some db) (hij : (i == j) = false)
    (hd : (if q == i then some d₁ else if q == j then some d₂ else some db) = some d) :
    wpAny (model c.prog c.w) A (eval (.Call (.Attribute (.Dict [some k₁, some k₂] [v₁, v₂] dp) "get" apos) [a, b] [] pos) env) (Res c s T X d) noE s := by
  have htr : backTo pos (starEach [a, b] env) = [(false, eval a env), (false, eval b env)] := by
    rw [starEach_plain (E.plain _ _ e5), starEach_plain (E.plain _ _ e6)]; rfl
  refine wpAny_Call_method2_late rfl hl htr ?_
  have fresh : s.heap.get? s.heap.objs.size = none := Heap.get?_none_of_le (Nat.le_refl _)
  have hdP := g.gd.ne_of_none fresh
  refine wpAny_Dict_pairs (knd := intKind c.prog c.w) (pairs := [(eval k₁ env, do let x ← eval v₁ env; standAt dp; pure x), (eval k₂ env, do let x ← eval v₂ env; standAt dp; pure x)]) rfl (by simp) (by simp) ?_
  have st0 : Step c s T { s with heap := s.heap.push { cls := .type "dict", data := .dict #[] } } T := Step.alloc _
  have g0 := st0.ok g
  refine evalPairs_cons (bindR g0 (E.ok _ _ _ _ e1 g0 (st0.al hX) (F.step g.gd st0)) fun kv s₁ T₁ g₁ st₁ r₁ => ?_)
  have st01 := st0.trans st₁
  refine wpAny_bind (bindR g₁ (E.ok _ _ _ _ e2 g₁ (st01.al hX) (F.step g.gd st01)) fun vv s₂ T₂ g₂ st₂ r₂ => wpAny_bind (wpAny_standAt (wpAny_pure ?_)))
  have st02 := st01.trans st₂
  refine evalPairs_cons (bindR g₂ (E.ok _ _ _ _ e3 g₂ (st02.al hX) (F.step g.gd st02)) fun kv' s₃ T₃ g₃ st₃ r₃ => ?_)
  have st03 := st02.trans st₃
  refine wpAny_bind (bindR g₃ (E.ok _ _ _ _ e4 g₃ (st03.al hX) (F.step g.gd st03)) fun vv' s₄ T₄ g₄ st₄ r₄ => wpAny_bind (wpAny_standAt (wpAny_pure (evalPairs_nil ?_))))
  have st04 := st03.trans st₄
  simp only [Rp] at r₁ r₃
  obtain ⟨t1, rfl⟩ := r₁
  obtain ⟨t3, rfl⟩ := r₃
  have hdict : s₄.heap.get? s.heap.objs.size = some { cls := .type "dict", data := .dict #[] } :=
    (((st₁.trans st₂).trans st₃).trans st₄).keep _ _ hdP (Heap.get?_push_size _ rfl)
  have hnew : s₄.heap.DictOf (intKind c.prog c.w) s.heap.objs.size [] := by
    obtain ⟨o, es, ep, q1, q2⟩ := Heap.DictOf.new (knd := intKind c.prog c.w) s.heap
    rw [Heap.get?_push_size _ rfl] at q1; cases q1
    exact ⟨_, es, ep, hdict, q2⟩
  refine ⟨[(i, vv), (j, vv')], ⟨intKind_is _ _ _ _, rfl, intKind_is _ _ _ _, rfl, trivial⟩, hnew, fun h' hdo hsb => ?_⟩
  have r₂' : Rp h' T₄ X d₁ vv := (st₄.rp g₃.gd (st₃.rp g₂.gd r₂)).same hsb hdict ⟨by simp, by simp⟩
  have r₄' : Rp h' T₄ X d₂ vv' := r₄.same hsb hdict ⟨by simp, by simp⟩
  have st5 : Step c s T { s₄ with heap := h', toks := s₄.toks + 2 } T₄ := st04.inner g fresh (notRec_dict hdict (by intro vs q; cases q)) hsb (by omega)
  have g5 := st5.ok g
  have hmd : merged [] [(i, vv), (j, vv')] = [(i, vv), (j, vv')] := by
    have : ¬ (i = j) := by simpa using hij
    simp [merged, stored, this]
  rw [hmd] at hdo
  refine ⟨"dict", "dict.get", PySem.F.plainAttrs_dict, PySem.F.slot_dict_get, PySem.F.type_dict_get, hdo.typeIs, hdo.mapOf.noDict, ?_⟩
  have hsys : (s.heap.objs.size == sysModules) = false := by
    obtain ⟨o, es, ep, hg, _⟩ := g.gd.g
    have : (3 : Nat) < s.heap.objs.size := Heap.lt_size hg
    have : s.heap.objs.size ≠ 1 := by omega
    simpa [sysModules] using this
  refine wpAny_dict_get2 (knd := intKind c.prog c.w) hsys (bindR g5 (E.ok _ _ _ _ e5 g5 (st5.al hX) (F.step g.gd st5)) fun av s₆ T₆ g₆ st₆ r₆ => ?_)
  have st06 := st5.trans st₆
  refine bindR g₆ (E.ok _ _ _ _ e6 g₆ (st06.al hX) (F.step g.gd st06)) fun bv s₇ T₇ g₇ st₇ r₇ => ?_
  have st67 := st₆.trans st₇
  simp only [Rp] at r₆
  obtain ⟨t6, rfl⟩ := r₆
  have hd7 : s₇.heap.DictOf (intKind c.prog c.w) s.heap.objs.size [(i, vv), (j, vv')] := by
    obtain ⟨o, es, ep, q1, q2⟩ := hdo
    exact ⟨o, es, ep, st67.keep _ _ hdP q1, q2⟩
  refine ⟨q, _, intKind_is _ _ _ _, hd7.mapOf, ?_⟩
  have st07 := st5.trans st67
  refine st07.res (res_tok ?_ (Nat.le_succ _))
  have r2 := st67.rp g5.gd r₂'
  have r4 := st67.rp g5.gd r₄'
  have hij' : ¬ (i = j) := by simpa using hij
  by_cases h1 : q = i
  · subst h1
    rw [if_pos (by simp)] at hd; cases hd
    simpa [valueAt] using r2
  · rw [if_neg (by simpa using h1)] at hd
    have h1' : ¬ i = q := fun e => h1 e.symm
    by_cases h2 : q = j
    · subst h2
      rw [if_pos (by simp)] at hd; cases hd
      simpa [valueAt, h1'] using r4
    · rw [if_neg (by simpa using h2)] at hd; cases hd
      have h2' : ¬ j = q := fun e => h2 e.symm
      simpa [valueAt, h1', h2'] using r₇

end Mine
end

section
open PySem PySem.W PyProof.Rows PySem.SeqAt
set_option maxRecDepth 100000
namespace Mine
variable {c : Cx} {A : Around} {s : Shared} {T : Gh} {X : Addr → Prop} {env : Env} {sc : Scope} {σ : Sig}

structure Harm (c : Cx) (d : Addr) (o : Obj) : Prop where
  notP : d ≠ c.P
  func : ∀ f, o.data ≠ .func f
  plain : o.data ≠ .plain
  dict : ∀ es ep, o.data = .dict es ep → 3 < d
  flds : ∀ vs, o.data = .fields vs → vs.size ≤ 8 ∧ ∀ q t, vs[1]? ≠ some (.str q t)

set_option tactic.hygienic false
theorem Harm.seq {d : Addr} {o : Obj} (hP : d ≠ c.P) {is : Array Value} {n : Nat} (h : o.data = .seq is n) : Harm c d o :=
  ⟨hP, by rw [h]; simp, by rw [h]; simp, by rw [h]; simp, by rw [h]; simp⟩
theorem Harm.cell {d : Addr} {o : Obj} (hP : d ≠ c.P) {v : Option Value} (h : o.data = .cell v) : Harm c d o :=
  ⟨hP, by rw [h]; simp, by rw [h]; simp, by rw [h]; simp, by rw [h]; simp⟩
theorem Harm.ns {d : Addr} {o : Obj} (hP : d ≠ c.P) {es : Array DictEntry} {n : Nat} (h : o.data = .dict es n) (h3 : 3 < d) : Harm c d o :=
  ⟨hP, by rw [h]; simp, by rw [h]; simp, fun zz zz zz => h3, by rw [h]; simp⟩
theorem Harm.fl {d : Addr} {o : Obj} (hP : d ≠ c.P) {vs : Array Value} (h : o.data = .fields vs) (h3 : vs.size ≤ 8) (h1 : ∀ q t, vs[1]? ≠ some (.str q t)) : Harm c d o :=
  ⟨hP, by rw [h]; simp, by rw [h]; simp, by rw [h]; simp, fun vs' e => by rw [h] at e; cases e; exact ⟨h3, h1⟩⟩

theorem Ns.off {h h' : Heap} {a d : Addr} {o : Obj} {m : Str → Option Value} (x : h.Ns a m) (ha : a ≤ 3) (e : h.get? d = some o) (H : Harm c d o) (hk : ∀ b o', b ≠ d → h.get? b = some o' → h'.get? b = some o') : h'.Ns a m := by
  obtain ⟨o', es, ep, e', hd, r⟩ := x
  refine ⟨o', es, ep, hk a o' (fun q => ?_) e', hd, r⟩
  subst q; rw [e'] at e; cases e
  exact absurd (H.dict es ep hd) (Nat.not_lt.mpr ha)
theorem CodeRec.off {h h' : Heap} {cd : Value} {q : Str} {d : Addr} {o : Obj} (x : h.CodeRec cd q) (e : h.get? d = some o) (H : Harm c d o) (hk : ∀ b o', b ≠ d → h.get? b = some o' → h'.get? b = some o') : h'.CodeRec cd q := by
  obtain ⟨a, o', vs, t, rfl, e', hd, r⟩ := x
  refine ⟨a, o', vs, t, rfl, hk a o' (fun q => ?_) e', hd, r⟩
  subst q; rw [e'] at e; cases e
  exact (H.flds vs hd).2 _ _ r
theorem Gd.ext {h h' : Heap} {d : Addr} {o : Obj} (g : Gd c h) (e : h.get? d = some o) (H : Harm c d o) (hk : ∀ b o', b ≠ d → h.get? b = some o' → h'.get? b = some o') : Gd c h' := by
  obtain ⟨g1, g2, g3, g4, g5, g6, g7, g8, g9⟩ := g
  refine ⟨Ns.off g1 (Nat.le_refl _) e H hk, Ns.off g2 (Nat.zero_le _) e H hk, ?_, ?_, fun dd hdd => ?_, ?_, ?_, ?_, ?_⟩
  · obtain ⟨mc, q1, q2⟩ := g3; exact ⟨mc, Ns.off q1 (by show (2:Nat) ≤ 3; omega) e H hk, q2⟩
  · obtain ⟨mc, q1, q2⟩ := g4; exact ⟨mc, Ns.off q1 (by show (2:Nat) ≤ 3; omega) e H hk, q2⟩
  · obtain ⟨a, o', pm, code, doc, q1, q2, q3, q4⟩ := g5 dd hdd
    exact ⟨a, o', pm, code, doc, q1, hk a o' (fun q => by subst q; rw [q2] at e; cases e; exact H.func _ q3) q2, q3, CodeRec.off q4 e H hk⟩
  · obtain ⟨a, o', fd, q1, q2, q3, q4⟩ := g6
    exact ⟨a, o', fd, q1, hk a o' (fun q => by subst q; rw [q2] at e; cases e; exact H.func _ q3) q2, q3, q4⟩
  · obtain ⟨o', vs, file, tf, flags, tg, inF, text, tt, e', r0, r1, r2, r⟩ := g7
    refine ⟨o', vs, file, tf, flags, tg, inF, text, tt, hk _ _ (fun q => ?_) e', r0, r1, r2, r⟩
    rw [q, e] at e'; cases e'
    have := (H.flds _ r1).1
    rw [Array.getElem?_eq_none (by omega)] at r2; cases r2
  · obtain ⟨ps, q1, q2⟩ := g8
    refine ⟨ps, hk _ _ (Ne.symm H.notP) q1, q2.imp id ?_⟩
    rintro ⟨c', e', r⟩
    exact ⟨c', e', CodeRec.off r e H hk⟩
  · obtain ⟨bm, ob, q1, q2, q3, q4, q5, q6⟩ := g9
    exact ⟨bm, ob, q1, q2, hk bm ob (fun q => by subst q; rw [q3] at e; cases e; exact H.plain q6) q3, q4, q5, q6⟩

structure StepG (c : Cx) (W : Addr → Prop) (gi : Option Nat) (s : Shared) (T : Gh) (s' : Shared) (T' : Gh) : Prop where
  keep : ∀ b o, b ≠ c.P → ¬ W b → s.heap.get? b = some o → s'.heap.get? b = some o
  tk : s.toks ≤ s'.toks
  le : ∀ t x, T t = some x → T' t = some x
  ok : Ok c s T → Ok c s' T'
  os : s'.os = s.os
  gsz : s.gens.size ≤ s'.gens.size
  gold : ∀ i, i < s.gens.size → some i ≠ gi → s'.gens[i]? = s.gens[i]?
  gnew : ∀ i x, s.gens.size ≤ i → some i ≠ gi → s'.gens[i]? = some x → x = .finished

theorem Step.g {s' : Shared} {T' : Gh} {W : Addr → Prop} {gi : Option Nat} (x : Step c s T s' T') : StepG c W gi s T s' T' :=
  ⟨fun b o hb zz e => x.keep b o hb e, x.tk, x.le, x.ok, x.os, x.gsz, fun i hi zz => x.gold i hi, fun i z hi zz => x.gnew i z hi⟩
theorem StepG.refl {W : Addr → Prop} {gi : Option Nat} : StepG c W gi s T s T := (Step.refl c s T).g
theorem StepG.trans {s₂ s₃ : Shared} {T₂ T₃ : Gh} {W : Addr → Prop} {gi : Option Nat} (x : StepG c W gi s T s₂ T₂) (y : StepG c W gi s₂ T₂ s₃ T₃) : StepG c W gi s T s₃ T₃ := by
  refine ⟨fun b o hb hw e => y.keep b o hb hw (x.keep b o hb hw e), Nat.le_trans x.tk y.tk, fun t z e => y.le _ _ (x.le _ _ e), fun g => y.ok (x.ok g), y.os.trans x.os, Nat.le_trans x.gsz y.gsz,
    fun i hi hg => (y.gold i (Nat.lt_of_lt_of_le hi x.gsz) hg).trans (x.gold i hi hg), fun i z hi hg e => ?_⟩
  by_cases h : i < s₂.gens.size
  · rw [y.gold i h hg] at e; exact x.gnew i z hi hg e
  · exact y.gnew i z (Nat.le_of_not_lt h) hg e
theorem StepG.mono {s' : Shared} {T' : Gh} {W W' : Addr → Prop} {gi : Option Nat} (x : StepG c W gi s T s' T') (h : ∀ b, W b → W' b ∨ s.heap.get? b = none) : StepG c W' gi s T s' T' :=
  ⟨fun b o hb hw e => x.keep b o hb (fun q => (h b q).elim hw (fun n => by rw [n] at e; cases e)) e, x.tk, x.le, x.ok, x.os, x.gsz, x.gold, x.gnew⟩
theorem StepG.gi {s' : Shared} {T' : Gh} {W : Addr → Prop} {gi : Option Nat} (x : StepG c W none s T s' T') : StepG c W gi s T s' T' :=
  ⟨x.keep, x.tk, x.le, x.ok, x.os, x.gsz, fun i hi zz => x.gold i hi (by simp), fun i z hi zz => x.gnew i z hi (by simp)⟩
theorem StepG.fin {s' : Shared} {T' : Gh} {W : Addr → Prop} {gi : Option Nat} (x : StepG c W gi s T s' T') (h : ∀ i, gi = some i → s.gens.size ≤ i ∧ s'.gens[i]? = some .finished) : StepG c W none s T s' T' := by
  refine ⟨x.keep, x.tk, x.le, x.ok, x.os, x.gsz, fun i hi zz => ?_, fun i z hi zz e => ?_⟩
  · by_cases q : some i = gi
    · exact absurd (h i q.symm).1 (Nat.not_le.mpr hi)
    · exact x.gold i hi q
  · by_cases q : some i = gi
    · rw [(h i q.symm).2] at e; cases e; rfl
    · exact x.gnew i z hi q e
theorem StepG.step {s' : Shared} {T' : Gh} {W : Addr → Prop} (x : StepG c W none s T s' T') (h : ∀ b, W b → s.heap.get? b = none) : Step c s T s' T' :=
  ⟨fun b o hb e => x.keep b o hb (fun q => by rw [h b q] at e; cases e) e, x.tk, x.le, x.ok, x.os, x.gsz, fun i hi => x.gold i hi (by simp), fun i z hi => x.gnew i z hi (by simp)⟩
theorem StepG.mut {W : Addr → Prop} {gi : Option Nat} {d : Addr} {o : Obj} {h' : Heap} {t : Nat} (e : s.heap.get? d = some o) (H : Harm c d o) (hW : W d) (hk : ∀ b o', b ≠ d → s.heap.get? b = some o' → h'.get? b = some o') (ht : s.toks ≤ t) :
    StepG c W gi s T { s with heap := h', toks := t } T :=
  ⟨fun b o zz hw e => hk b o (fun q => hw (q ▸ hW)) e, ht, fun zz zz e => e, fun g => ⟨g.gd.ext e H hk, Nat.lt_of_lt_of_le g.pos ht, fun t' x e => ⟨Nat.lt_of_lt_of_le (g.tv t' x e).1 ht, (g.tv t' x e).2⟩⟩, rfl, Nat.le_refl _, fun zz zz zz => rfl, fun zz zz h zz => noGen h⟩

noncomputable def Soft (h : Heap) (W X : Addr → Prop) : Prop := ∀ b o, W b → h.get? b = some o → X b ∨ ∀ is n, o.data ≠ .seq is n
theorem StepG.rp {s' : Shared} {T' : Gh} {W : Addr → Prop} {gi : Option Nat} (g : Gd c s.heap) (x : StepG c W gi s T s' T') (hs : Soft s.heap W X) {d : D} {v : Value} (H : Rp s.heap T X d v) : Rp s'.heap T' X d v :=
  H.ext x.le fun b o hb e hc hd => ⟨hb, x.keep b o (g.notP e (by rcases hc with h | h <;> rw [h] <;> intro q <;> cases q)) (fun w => (hs b o w e).elim hb (fun n => let ⟨is, k, q⟩ := hd; n is k q)) e⟩
theorem StepG.rpL {s' : Shared} {T' : Gh} {W : Addr → Prop} {gi : Option Nat} (g : Gd c s.heap) (x : StepG c W gi s T s' T') (hs : Soft s.heap W X) {d : List D} {v : List Value} (H : RpL s.heap T X d v) : RpL s'.heap T' X d v :=
  H.ext x.le fun b o hb e hc hd => ⟨hb, x.keep b o (g.notP e (by rcases hc with h | h <;> rw [h] <;> intro q <;> cases q)) (fun w => (hs b o w e).elim hb (fun n => let ⟨is, k, q⟩ := hd; n is k q)) e⟩
theorem StepG.al {s' : Shared} {T' : Gh} {W : Addr → Prop} {gi : Option Nat} (x : StepG c W gi s T s' T') (h : Al c s.heap X) (hw : ∀ b, W b → X b → ∃ o, s'.heap.get? b = some o) : Al c s'.heap X := fun b hb => by
  obtain ⟨h1, o, e⟩ := h b hb
  by_cases w : W b
  · exact ⟨h1, hw b w hb⟩
  · exact ⟨h1, o, x.keep b o h1 w e⟩
theorem Ns.keep {s' : Shared} {T' : Gh} {W : Addr → Prop} {gi : Option Nat} {a : Addr} {m : Str → Option Value} (g : Gd c s.heap) (x : StepG c W gi s T s' T') (h : s.heap.Ns a m) (hw : ¬ W a) : s'.heap.Ns a m := by
  obtain ⟨o, es, ep, e, hd, r⟩ := h
  obtain ⟨ps, hP, _⟩ := g.tab
  exact ⟨o, es, ep, x.keep a o (fun q => by subst q; rw [hP] at e; cases e; cases hd) hw e, hd, r⟩
theorem IsCell.keep {s' : Shared} {T' : Gh} {W : Addr → Prop} {gi : Option Nat} {a : Addr} {v : Option Value} (g : Gd c s.heap) (x : StepG c W gi s T s' T') (h : s.heap.IsCell a v) (hw : ¬ W a) : s'.heap.IsCell a v := by
  obtain ⟨o, e, hd⟩ := h
  obtain ⟨ps, hP, _⟩ := g.tab
  exact ⟨o, x.keep a o (fun q => by subst q; rw [hP] at e; cases e; cases hd) hw e, hd⟩
noncomputable def EnvA (env : Env) (b : Addr) : Prop := b = env.locals ∨ ∃ f, env.cells.lookup f = some b
noncomputable def EnvW (env : Env) (sc : Scope) (b : Addr) : Prop := b = env.locals ∨ ∃ f, sc.names.lookup f = some .cell ∧ env.cells.lookup f = some b
theorem EnvW.a {b : Addr} (h : EnvW env sc b) : EnvA env b := h.imp id fun ⟨f, _, e⟩ => ⟨f, e⟩
theorem FrameOK.stepG {s' : Shared} {T' : Gh} {W : Addr → Prop} {gi : Option Nat} (F : FrameOK s.heap T env sc σ X) (g : Gd c s.heap) (x : StepG c W gi s T s' T') (hs : Soft s.heap W X) (hw : ∀ b, EnvA env b → ¬ W b) : FrameOK s'.heap T' env sc σ X := by
  refine ⟨F.eok, let ⟨m, h⟩ := F.ns; ⟨m, Ns.keep g x h (hw _ (.inl rfl))⟩, fun f a e => let ⟨v, h⟩ := F.cells f a e; ⟨v, IsCell.keep g x h (hw _ (.inr ⟨f, e⟩))⟩, fun n d e => ?_⟩
  obtain ⟨v, h1, h2⟩ := F.has n d e
  refine ⟨v, ?_, x.rp g hs h2⟩
  rcases h1 with ⟨q1, m, q2, q3⟩ | ⟨q1, a, q2, q3⟩
  · exact .inl ⟨q1, m, Ns.keep g x q2 (hw _ (.inl rfl)), q3⟩
  · exact .inr ⟨q1, a, q2, IsCell.keep g x q3 (hw _ (.inr ⟨n, q2⟩))⟩
theorem FrameOK.notSeq (F : FrameOK s.heap T env sc σ X) : ∀ b, EnvA env b → ∃ o, s.heap.get? b = some o ∧ ∀ is n, o.data ≠ .seq is n := by
  rintro b (rfl | ⟨f, hf⟩)
  · obtain ⟨m, o', es, ep, e', hd, _⟩ := F.ns
    exact ⟨_, e', by rw [hd]; simp⟩
  · obtain ⟨v, o', e', hd⟩ := F.cells f b hf
    exact ⟨_, e', by rw [hd]; simp⟩
theorem FrameOK.notP (F : FrameOK s.heap T env sc σ X) (g : Gd c s.heap) : ∀ b, EnvA env b → b ≠ c.P := by
  obtain ⟨ps, hP, _⟩ := g.tab
  rintro b (rfl | ⟨f, hf⟩) q
  · obtain ⟨m, o', es, ep, e', hd, _⟩ := F.ns
    rw [q, hP] at e'; cases e'; cases hd
  · obtain ⟨v, o', e', hd⟩ := F.cells f b hf
    rw [q, hP] at e'; cases e'; cases hd
theorem FrameOK.soft (F : FrameOK s.heap T env sc σ X) : Soft s.heap (EnvW env sc) X := by
  rintro b o (rfl | ⟨f, _, hf⟩) e
  · obtain ⟨m, o', es, ep, e', hd, _⟩ := F.ns
    rw [e] at e'; cases e'
    exact .inr (by rw [hd]; simp)
  · obtain ⟨v, o', e', hd⟩ := F.cells f b hf
    rw [e] at e'; cases e'
    exact .inr (by rw [hd]; simp)

set_option tactic.hygienic true
theorem store_ok {x : Str} {d : D} {v : Value} {Q : Unit → Shared → Prop} {E : Value → Shared → Prop} (g : Ok c s T) (F : FrameOK s.heap T env sc σ X) (hx : stOk sc x = true) (hv : Rp s.heap T X d v)
    (h : ∀ s', StepG c (EnvW env sc) none s T s' T → FrameOK s'.heap T env sc (Sig.set σ x d) X → Q () s') : wpAny (model c.prog c.w) A (storeName env x v) Q E s := by
  have hP : ∀ b o, s.heap.get? b = some o → (∃ es ep, o.data = .dict es ep) ∨ (∃ v, o.data = .cell v) → b ≠ c.P := fun b o e hd q => by
    obtain ⟨ps, hP, _⟩ := g.gd.tab
    subst q; rw [hP] at e; cases e
    rcases hd with ⟨_, _, q⟩ | ⟨_, q⟩ <;> cases q
  have hsoft := F.soft
  simp only [stOk, Bool.or_eq_true, beq_iff_eq] at hx
  rcases hx with hx | hx
  · have hk := F.eok.loc x hx
    obtain ⟨m, hn⟩ := F.ns
    obtain ⟨o, es, ep, e, hd, hr⟩ := id hn
    refine wpAny_storeName_local hk hn (fun h' hn' hs' => ?_) (by rw [F.eok.kind]; rfl)
    have st : StepG c (EnvW env sc) none s T { s with heap := h', toks := s.toks + 1 } T := StepG.mut e (Harm.ns (hP _ _ e (.inl ⟨es, ep, hd⟩)) hd F.eok.low) (.inl rfl) (fun b o' hb e' => hs'.extBut b o' hb e') (Nat.le_succ _)
    have st1 : StepG c (fun b => b = env.locals) none s T { s with heap := h', toks := s.toks + 1 } T := StepG.mut e (Harm.ns (hP _ _ e (.inl ⟨es, ep, hd⟩)) hd F.eok.low) rfl (fun b o' hb e' => hs'.extBut b o' hb e') (Nat.le_succ _)
    have hne : ∀ f a, env.cells.lookup f = some a → ¬ (a = env.locals) := fun f a ha q => by
      obtain ⟨v, o', e', hd'⟩ := F.cells f a ha
      rw [q, e] at e'; cases e'; rw [hd] at hd'; cases hd'
    refine h _ st ⟨F.eok, ⟨_, hn'⟩, fun f a ha => ?_, fun n d' e' => ?_⟩
    · obtain ⟨v, hc⟩ := F.cells f a ha
      exact ⟨v, IsCell.keep g.gd st1 hc (hne f a ha)⟩
    · unfold Sig.set at e'
      split at e'
      · rename_i q; subst q; cases e'
        exact ⟨v, .inl ⟨hk, _, hn', by simp⟩, st.rp g.gd hsoft hv⟩
      · rename_i q
        obtain ⟨v', h1, h2⟩ := F.has n d' e'
        refine ⟨v', ?_, st.rp g.gd hsoft h2⟩
        rcases h1 with ⟨q1, m', q2, q3⟩ | ⟨q1, a, q2, q3⟩
        · refine .inl ⟨q1, _, hn', ?_⟩
          rw [if_neg q]
          obtain ⟨o2, es2, ep2, e2, hd2, _, hr2⟩ := q2
          rw [e] at e2; cases e2; rw [hd] at hd2; cases hd2
          rw [← hr.2, hr2]; exact q3
        · exact .inr ⟨q1, a, q2, IsCell.keep g.gd st1 q3 (hne n a q2)⟩
  · have hk := F.eok.cel x hx
    obtain ⟨a, ha⟩ := (F.eok.ce x (.inl hx)).2
    obtain ⟨v₀, hc⟩ := F.cells x a ha
    obtain ⟨o, e, hd⟩ := id hc
    refine wpAny_storeName_cell F.eok.kind hk ha hc fun h' hc' hs' => ?_
    have st : StepG c (EnvW env sc) none s T { s with heap := h' } T := StepG.mut e (Harm.cell (hP _ _ e (.inr ⟨_, hd⟩)) hd) (.inr ⟨x, hx, ha⟩) (fun b o' hb e' => hs'.extBut b o' hb e') (Nat.le_refl _)
    have st1 : StepG c (fun b => b = a) none s T { s with heap := h' } T := StepG.mut e (Harm.cell (hP _ _ e (.inr ⟨_, hd⟩)) hd) rfl (fun b o' hb e' => hs'.extBut b o' hb e') (Nat.le_refl _)
    have hne : ¬ (env.locals = a) := fun q => by
      obtain ⟨m, o', es, ep, e', hd', _⟩ := F.ns
      rw [q, e] at e'; cases e'; rw [hd] at hd'; cases hd'
    refine h _ st ⟨F.eok, let ⟨m, hn⟩ := F.ns; ⟨m, Ns.keep g.gd st1 hn hne⟩, fun f b hb => ?_, fun n d' e' => ?_⟩
    · by_cases q : b = a
      · subst q; exact ⟨_, hc'⟩
      · obtain ⟨v, hc⟩ := F.cells f b hb
        exact ⟨v, IsCell.keep g.gd st1 hc q⟩
    · unfold Sig.set at e'
      split at e'
      · rename_i q; subst q; cases e'
        exact ⟨v, .inr ⟨.inl hk, a, ha, hc'⟩, st.rp g.gd hsoft hv⟩
      · rename_i q
        obtain ⟨v', h1, h2⟩ := F.has n d' e'
        refine ⟨v', ?_, st.rp g.gd hsoft h2⟩
        rcases h1 with ⟨q1, m', q2, q3⟩ | ⟨q1, b, q2, q3⟩
        · exact .inl ⟨q1, m', Ns.keep g.gd st1 q2 hne, q3⟩
        · exact .inr ⟨q1, b, q2, IsCell.keep g.gd st1 q3 (fun r => q (F.eok.apart n x a (r ▸ q2) ha))⟩

end Mine
end

section
open PySem PySem.W PyProof.Rows PySem.SeqAt
set_option maxRecDepth 100000
namespace Mine
variable {c : Cx} {A : Around} {s : Shared} {T : Gh} {X : Addr → Prop} {env : Env} {sc : Scope} {σ : Sig}

structure IterS (c : Cx) (A : Around) (X : Addr → Prop) (it : Value) (fp wr : Addr → Prop) (gi : Option Nat) (St : List D → Shared → Gh → Prop) : Prop where
  next : ∀ d ds s T, St (d :: ds) s T → Ok c s T → Al c s.heap X → (∀ b, fp b ∨ ∃ o, s.heap.get? b = some o) →
    wpAny (model c.prog c.w) A (pyNext it) (fun r s' => ∃ v T' w, r = some v ∧ (∀ b, w b → wr b) ∧ Soft s.heap w X ∧ StepG c w gi s T s' T' ∧ Rp s'.heap T' X d v ∧ St ds s' T') noE s
  stop : ∀ s T, St [] s T → Ok c s T → (∀ b, fp b ∨ ∃ o, s.heap.get? b = some o) → wpAny (model c.prog c.w) A (pyNext it) (fun r s' => ∃ T' w, r = none ∧ (∀ b, w b → wr b) ∧ Soft s.heap w X ∧ StepG c w gi s T s' T' ∧ (∀ i, gi = some i → s'.gens[i]? = some .finished)) noE s
  self : ∀ ds s T (Q : Value → Shared → Prop), St ds s T → Q it s → wpAny (model c.prog c.w) A (pyIter it) Q noE s
  own : ∀ ds s T t v (Q : Unit → Shared → Prop), St ds s T → Q () s → wpAny (model c.prog c.w) A (letOwnedTupleGo t it v) Q noE s
  frame : ∀ ds s T s' T' W, St ds s T → Gd c s.heap → StepG c W none s T s' T' → (∀ b, fp b → ¬ W b) → Soft s.heap W X → St ds s' T'
  sub : ∀ b, wr b → fp b

noncomputable def ownNames : List String := ["enumerate", "zip", "dict_itemiterator", "dict_reverseitemiterator", "odict_iterator", "itertools.zip_longest", "itertools.pairwise"]
noncomputable def ItObj (h : Heap) (I : Addr) : Prop :=
  ∃ o n vs, h.get? I = some o ∧ o.cls = .type n ∧ ownNames.contains n = false ∧ o.data = .fields vs ∧ vs.size ≤ 8 ∧ ∀ q t, vs[1]? ≠ some (.str q t)

set_option tactic.hygienic false
theorem own_pure {it : Value} {t : Expr} {v : Value} {Q : Unit → Shared → Prop} {E : Value → Shared → Prop} (e : letOwnedTupleGo t it v = pure ()) (h : Q () s) : wpAny (model c.prog c.w) A (letOwnedTupleGo t it v) Q E s := by
  rw [e]; exact wpAny_pure h
set_option tactic.hygienic true
theorem own_ok {I : Addr} {t : Expr} {v : Value} {Q : Unit → Shared → Prop} {E : Value → Shared → Prop} {o : Obj} {n : String} (e : s.heap.get? I = some o) (hc : o.cls = .type n) (hn : ownNames.contains n = false) (h : Q () s) :
    wpAny (model c.prog c.w) A (letOwnedTupleGo t (.ref I) v) Q E s := by
  have key : ∀ a, wpAny (model c.prog c.w) A (do
      let o ← load I
      match o.cls, o.data with
      | .type n, .fields vs =>
        if ["enumerate", "zip", "dict_itemiterator", "dict_reverseitemiterator", "odict_iterator", "itertools.zip_longest", "itertools.pairwise"].contains n && vs[0]? == some (rawInt a) then
          rule "for.unpacks-the-owned-tuple"
          updateField I 0 .none
      | _, _ => pure ()) Q E s := fun a => by
    refine wpAny_bind (wpAny_load e ?_)
    rw [hc]
    cases hd : o.data <;> try exact wpAny_pure h
    rename_i vs
    have hn' : ["enumerate", "zip", "dict_itemiterator", "dict_reverseitemiterator", "odict_iterator", "itertools.zip_longest", "itertools.pairwise"].contains n = false := hn
    dsimp only
    rw [hn']
    exact wpAny_pure h
  have tl : ∀ es k p, wpAny (model c.prog c.w) A (letOwnedTupleGo (.Tuple es k p) (.ref I) v) Q E s := fun es k p => by
    cases v <;> first | exact wpAny_pure h | exact key _
  cases t with
  | Tuple es k p => exact tl es k p
  | List es p => exact tl es 0 p
  | _ => exact own_pure (Eq.refl _) h

set_option tactic.hygienic false
theorem IterS.ofWalks {fp wr : Addr → Prop} {I : Addr} {fpL : List Addr} (hf : ∀ b ∈ fpL, fp b) (hw : wr I) (hsub : ∀ b, wr b → fp b) {n : Nat} {P : Nat → Value → Prop} {Stw : Nat → Heap → Prop} (W : Walks c.prog c.w A I fpL [I] n P Stw) (hP : I ≠ c.P) (hfP : ∀ b ∈ fpL, b ≠ c.P) (all : List D) (hlen : all.length = n) (hobj : ∀ i h, Stw i h → ItObj h I)
    (Dat : Shared → Gh → Prop) (hdat : ∀ s T s' T' W gi, Dat s T → Gd c s.heap → StepG c W gi s T s' T' → Soft s.heap W X → Dat s' T') (hval : ∀ s T i v d, Dat s T → P i v → all[i]? = some d → Rp s.heap T X d v) :
    IterS c A X (.ref I) fp wr none (fun ds s T => ∃ i, ds = all.drop i ∧ i ≤ n ∧ Stw i s.heap ∧ Dat s T) := by
  have soft : ∀ h, ItObj h I → Soft h (· = I) X := fun h ⟨o, n, vs, e, _, _, hd, _⟩ b o' hb e' => by
    subst hb; rw [e] at e'; cases e'
    exact .inr (by rw [hd]; simp)
  have mutn : ∀ (s : Shared) (T : Gh) h' tk, ItObj s.heap I → (∀ b o, b ∉ [I] → s.heap.get? b = some o → h'.get? b = some o) → s.toks ≤ tk → StepG c (· = I) none s T { s with heap := h', toks := tk } T := fun s T h' tk hi hk ht => by
    obtain ⟨o, n, vs, e, _, _, hd, h3, h1⟩ := hi
    exact StepG.mut e (Harm.fl hP hd h3 h1) rfl (fun b o' hb e' => hk b o' (by simpa using hb) e') ht
  refine ⟨?_, ?_, ?_, ?_, ?_, hsub⟩
  · rintro d ds s T ⟨i, hds, hi, hst, hD⟩ g _ _
    have hd : all[i]? = some d := by
      have := congrArg (fun l => l[0]?) hds
      simpa [List.getElem?_drop] using this.symm
    have hin : i < n := by
      rw [← hlen]
      exact (List.getElem?_eq_some_iff.mp hd).1
    refine leaf (W.item i s _ _ hin hst fun v h' tk hv hst' hk htk => ?_)
    have st := mutn s T h' tk (hobj _ _ hst) hk htk
    refine ⟨v, T, (· = I), rfl, fun b hb => hb ▸ hw, soft _ (hobj _ _ hst), st, st.rp g.gd (soft _ (hobj _ _ hst)) (hval s T i v d hD hv hd), i + 1, ?_, hin, hst', hdat _ _ _ _ _ _ hD g.gd st (soft _ (hobj _ _ hst))⟩
    have := congrArg List.tail hds
    simpa [List.tail_drop] using this
  · rintro s T ⟨i, hds, hi, hst, hD⟩ g _
    have hin : i = n := by
      have := congrArg List.length hds
      simp at this; omega
    subst hin
    exact leaf (W.done s _ _ hst fun h' tk hk htk => ⟨T, (· = I), rfl, fun b hb => hb ▸ hw, soft _ (hobj _ _ hst), mutn s T h' tk (hobj _ _ hst) hk htk, by simp⟩)
  · rintro ds s T Q ⟨i, _, _, hst, _⟩ hQ
    exact W.self i s Q _ hst hQ
  · rintro ds s T t v Q ⟨i, _, _, hst, _⟩ hQ
    obtain ⟨o, n, vs, e, hc, hn, _⟩ := hobj _ _ hst
    exact own_ok e hc hn hQ
  · rintro ds s T s' T' W' ⟨i, h1, h2, hst, hD⟩ g st hww hs
    exact ⟨i, h1, h2, W.frame i _ _ hst fun b hb o e => st.keep b o (hfP b hb) (hww b (hf b hb)) e, hdat _ _ _ _ _ _ hD g st hs⟩

noncomputable def ItR (c : Cx) (A : Around) (X : Addr → Prop) (gi : Option Nat) (s : Shared) (T : Gh) (ds : List D) (it : Value) (s' : Shared) : Prop :=
  ∃ T', StepG c (fun zz => False) gi s T s' T' ∧ (∀ X' U : Addr → Prop, (∀ b, X' b → U b) → (∀ b, X' b → X b ∨ s'.heap.get? b = none) → (∀ b, U b → s'.heap.get? b = none ∨ (b ≠ c.P ∧ ∃ o, s.heap.get? b = some o ∧ (X b ∨ ∀ is n, o.data ≠ .seq is n))) →
    ∃ St, IterS c A X' it (fun b => ¬ U b) (fun b => ¬ U b ∧ s.heap.get? b = none) gi St ∧ St ds s' T') ∧ (∀ i, gi = some i → s.gens.size ≤ i)

theorem RpL.more {h : Heap} {X' : Addr → Prop} {ds : List D} {vs : List Value} (H : RpL h T X ds vs) (hX : ∀ b, X' b → X b ∨ h.get? b = none) : RpL h T X' ds vs :=
  H.ext (fun zz zz e => e) fun b o hb e zz zz => ⟨fun q => (hX b q).elim hb (fun n => by rw [n] at e; cases e), e⟩
theorem Rp.more {h : Heap} {X' : Addr → Prop} {d : D} {v : Value} (H : Rp h T X d v) (hX : ∀ b, X' b → X b ∨ h.get? b = none) : Rp h T X' d v :=
  H.ext (fun zz zz e => e) fun b o hb e zz zz => ⟨fun q => (hX b q).elim hb (fun n => by rw [n] at e; cases e), e⟩

theorem itr_list {a : Addr} {vs : List Value} {ds : List D} (hA : A.handled = none) (g : Ok c s T) (ha : ¬ X a) (hl : s.heap.PlainList a vs.toArray) (H : RpL s.heap T X ds vs) :
    wpAny (model c.prog c.w) A (pyIter (.ref a)) (ItR c A X none s T ds) noE s := by
  refine wpAny_pyIter_list hl.isList ?_
  obtain ⟨n, hn⟩ := hl
  have fresh : s.heap.get? s.heap.objs.size = none := Heap.get?_none_of_le (Nat.le_refl _)
  have hlt := Heap.lt_size hn
  have hne : a ≠ s.heap.objs.size := Nat.ne_of_lt hlt
  have haP := g.gd.notP hn (by simp)
  have st : Step c s T { s with heap := s.heap.push { cls := .type "list_iterator", data := .fields #[.ref a, .int 0 0] } } T := Step.alloc _
  have hU : ∀ U : Addr → Prop, (∀ b, U b → (s.heap.push { cls := .type "list_iterator", data := .fields #[.ref a, .int 0 0] }).get? b = none ∨ (b ≠ c.P ∧ ∃ o, s.heap.get? b = some o ∧ (X b ∨ ∀ is n, o.data ≠ .seq is n))) → ¬ U s.heap.objs.size ∧ ¬ U a := fun U hU => by
    refine ⟨fun q => ?_, fun q => ?_⟩
    · rcases hU _ q with h | ⟨_, o, h, _⟩
      · rw [Heap.get?_push_size _ rfl] at h; cases h
      · rw [fresh] at h; cases h
    · rcases hU _ q with h | ⟨_, o, h, h'⟩
      · rw [Heap.get?_push_of_some _ hn] at h; cases h
      · rw [hn] at h; cases h
        rcases h' with h' | h'
        · exact ha h'
        · exact h' _ _ rfl
  have I := fun X' U hu => IterS.ofWalks (c := c) (X := X') (fp := fun b => ¬ U b) (wr := fun b => ¬ U b ∧ s.heap.get? b = none) (by rintro b hb; simp at hb; rcases hb with rfl | rfl; exact (hU U hu).1; exact (hU U hu).2) ⟨(hU U hu).1, fresh⟩ (fun b h => h.1) (Walks.list (prog := c.prog) (w := c.w) hA s.heap.objs.size a hne vs.toArray) (g.gd.ne_of_none fresh) (by rintro b hb; simp at hb; rcases hb with rfl | rfl; exact g.gd.ne_of_none fresh; exact haP) ds
    (by have := H.length; simp [this])
    (fun i h ⟨⟨o, e, hc, hd⟩, _⟩ => ⟨o, _, _, e, hc, by decide, hd, by simp, by intro q t; simp⟩)
    (fun s T => RpL s.heap T X' ds vs) (fun s T s' T' W gi hD g' x hs => x.rpL g' hs hD)
    (fun s T i v d hD hv hd => by
      obtain ⟨v', h1, h2⟩ := hD.get hd
      have : vs[i]? = some v := by simpa using hv
      rw [this] at h1; cases h1; exact h2)
  exact ⟨T, st.g, fun X' U zz hX' hu => ⟨_, I X' U hu, ⟨0, rfl, Nat.zero_le _, ⟨⟨_, Heap.get?_push_size _ rfl, rfl, rfl⟩, (Heap.PlainList.isList ⟨n, hn⟩).push _⟩, (st.rpL g.gd H).more hX'⟩⟩, by simp⟩
theorem itr_tup {a : Addr} {vs : List Value} {ds : List D} (hA : A.handled = none) (g : Ok c s T) (ha : ¬ X a) (hl : PlainTup s.heap a vs.toArray) (H : RpL s.heap T X ds vs) :
    wpAny (model c.prog c.w) A (pyIter (.ref a)) (ItR c A X none s T ds) noE s := by
  obtain ⟨n, hn⟩ := hl
  have hl : s.heap.IsTuple a vs.toArray := ⟨_, hn, rfl, n, rfl⟩
  refine wpAny_pyIter_tuple hl ?_
  have fresh : s.heap.get? s.heap.objs.size = none := Heap.get?_none_of_le (Nat.le_refl _)
  have hlt := Heap.lt_size hn
  have hne : a ≠ s.heap.objs.size := Nat.ne_of_lt hlt
  have haP := g.gd.notP hn (by simp)
  have st : Step c s T { s with heap := s.heap.push { cls := .type "tuple_iterator", data := .fields #[.ref a, .int 0 0] } } T := Step.alloc _
  have hU : ∀ U : Addr → Prop, (∀ b, U b → (s.heap.push { cls := .type "tuple_iterator", data := .fields #[.ref a, .int 0 0] }).get? b = none ∨ (b ≠ c.P ∧ ∃ o, s.heap.get? b = some o ∧ (X b ∨ ∀ is n, o.data ≠ .seq is n))) → ¬ U s.heap.objs.size ∧ ¬ U a := fun U hU => by
    refine ⟨fun q => ?_, fun q => ?_⟩
    · rcases hU _ q with h | ⟨_, o, h, _⟩
      · rw [Heap.get?_push_size _ rfl] at h; cases h
      · rw [fresh] at h; cases h
    · rcases hU _ q with h | ⟨_, o, h, h'⟩
      · rw [Heap.get?_push_of_some _ hn] at h; cases h
      · rw [hn] at h; cases h
        rcases h' with h' | h'
        · exact ha h'
        · exact h' _ _ rfl
  have I := fun X' U hu => IterS.ofWalks (c := c) (X := X') (fp := fun b => ¬ U b) (wr := fun b => ¬ U b ∧ s.heap.get? b = none) (by rintro b hb; simp at hb; rcases hb with rfl | rfl; exact (hU U hu).1; exact (hU U hu).2) ⟨(hU U hu).1, fresh⟩ (fun b h => h.1) (Walks.tuple (prog := c.prog) (w := c.w) hA s.heap.objs.size a hne vs.toArray) (g.gd.ne_of_none fresh) (by rintro b hb; simp at hb; rcases hb with rfl | rfl; exact g.gd.ne_of_none fresh; exact haP) ds
    (by have := H.length; simp [this])
    (fun i h ⟨⟨o, e, hc, hd⟩, _⟩ => ⟨o, _, _, e, hc, by decide, hd, by simp, by intro q t; simp⟩)
    (fun s T => RpL s.heap T X' ds vs) (fun s T s' T' W gi hD g' x hs => x.rpL g' hs hD)
    (fun s T i v d hD hv hd => by
      obtain ⟨v', h1, h2⟩ := hD.get hd
      have : vs[i]? = some v := by simpa using hv
      rw [this] at h1; cases h1; exact h2)
  exact ⟨T, st.g, fun X' U zz hX' hu => ⟨_, I X' U hu, ⟨0, rfl, Nat.zero_le _, ⟨⟨_, Heap.get?_push_size _ rfl, rfl, rfl⟩, hl.push _⟩, (st.rpL g.gd H).more hX'⟩⟩, by simp⟩

theorem itr_range {r : Addr} {a b : Int} {t u v : Tok} (hA : A.handled = none) (g : Ok c s T) (hr : IsRange s.heap r a b 1 t u v) (ha : smallI a = true) (hb : smallI b = true) :
    wpAny (model c.prog c.w) A (pyIter (.ref r)) (ItR c A X none s T (rngD a b)) noE s := by
  simp only [smallI, Bool.and_eq_true, decide_eq_true_eq] at ha hb
  refine wpAny_pyIter_range hr (small_one (by omega) (by omega) (by omega) (by omega)) ?_
  have fresh : s.heap.get? s.heap.objs.size = none := Heap.get?_none_of_le (Nat.le_refl _)
  have hn : Builtin.Range.rangeSize a b 1 = ((b - a).toNat : Int) := by
    rw [rangeSize_one]; split <;> omega
  rw [hn]
  have st : Step c s T { s with heap := s.heap.push { cls := .type "range_iterator", data := .fields #[rawInt a, rawInt ((b - a).toNat : Int), rawInt 1] } } T := Step.alloc _
  have hU : ∀ U : Addr → Prop, (∀ b', U b' → (s.heap.push { cls := .type "range_iterator", data := .fields #[rawInt a, rawInt ((b - a).toNat : Int), rawInt 1] }).get? b' = none ∨ (b' ≠ c.P ∧ ∃ o, s.heap.get? b' = some o ∧ (X b' ∨ ∀ is n, o.data ≠ .seq is n))) → ¬ U s.heap.objs.size := fun U hU q => by
    rcases hU _ q with h | ⟨_, o, h, _⟩
    · rw [Heap.get?_push_size _ rfl] at h; cases h
    · rw [fresh] at h; cases h
  have I := fun X' U hu => IterS.ofWalks (c := c) (X := X') (fp := fun b => ¬ U b) (wr := fun b => ¬ U b ∧ s.heap.get? b = none) (by rintro b' hb'; simp at hb'; rw [hb']; exact hU U hu) ⟨hU U hu, fresh⟩ (fun b h => h.1) (Walks.range (prog := c.prog) (w := c.w) hA s.heap.objs.size a 1 (b - a).toNat) (g.gd.ne_of_none fresh) (by rintro b' hb'; simp at hb'; rw [hb']; exact g.gd.ne_of_none fresh) (rngD a b)
    (by simp [rngD])
    (fun i h e => ⟨_, _, _, e, rfl, by decide, rfl, by simp, by intro q t; simp [rawInt]⟩)
    (fun s T => True) (fun s T s' T' W gi hD g' x hs => trivial)
    (fun s T i v d hD hv hd => by
      simp only [rngD, List.getElem?_map, Option.map_eq_some_iff] at hd
      obtain ⟨j, h1, rfl⟩ := hd
      have : j = i := by
        have := List.getElem?_eq_some_iff.mp h1
        obtain ⟨h2, h3⟩ := this
        simpa using h3.symm
      subst this
      obtain ⟨t, rfl⟩ := hv
      simp only [Rp]
      exact ⟨t, by simp⟩)
  refine ⟨T, st.g, fun X' U zz hX' hu => ⟨_, I X' U hu, ⟨0, rfl, Nat.zero_le _, ?_, trivial⟩⟩, by simp⟩
  · have := Heap.get?_push_size s.heap (o := { cls := .type "range_iterator", data := .fields #[rawInt a, rawInt ((b - a).toNat : Int), rawInt 1] }) rfl
    simpa [IsRangeIter] using this

theorem charsD_get {x : Str} {i : Nat} {d : D} {v : Value} {h : Heap} (hv : SignAt x i v) (hd : (charsD x)[i]? = some d) : Rp h T X d v := by
  obtain ⟨ch, u, h1, rfl⟩ := hv
  simp only [charsD, List.getElem?_map, Option.map_eq_some_iff] at hd
  obtain ⟨ch', h2, rfl⟩ := hd
  have : ch' = ch := by
    have h3 : x.cps.toList[i]? = some ch := by simpa using h1
    rw [h2] at h3; cases h3; rfl
  subst this
  simp only [Rp]
  exact ⟨by show (1 : Nat) ≤ 1048576; omega, u, rfl⟩
theorem itr_str {x : Str} {t : Tok} (hA : A.handled = none) (g : Ok c s T) :
    wpAny (model c.prog c.w) A (pyIter (.str x t)) (ItR c A X none s T (charsD x)) noE s := by
  have fresh : s.heap.get? s.heap.objs.size = none := Heap.get?_none_of_le (Nat.le_refl _)
  have main : ∀ (ty : String) (Wk : Walks c.prog c.w A s.heap.objs.size [s.heap.objs.size] [s.heap.objs.size] x.cps.size (SignAt x) (fun i h => h.IsStrIter s.heap.objs.size ty x t i)), ownNames.contains ty = false →
      ItR c A X none s T (charsD x) (.ref s.heap.objs.size) { s with heap := s.heap.push { cls := .type ty, data := .fields #[.str x t, .int 0 0] } } := fun ty Wk hty => by
    have st : Step c s T { s with heap := s.heap.push { cls := .type ty, data := .fields #[.str x t, .int 0 0] } } T := Step.alloc _
    have hU : ∀ U : Addr → Prop, (∀ b', U b' → (s.heap.push { cls := .type ty, data := .fields #[.str x t, .int 0 0] }).get? b' = none ∨ (b' ≠ c.P ∧ ∃ o, s.heap.get? b' = some o ∧ (X b' ∨ ∀ is n, o.data ≠ .seq is n))) → ¬ U s.heap.objs.size := fun U hU q => by
      rcases hU _ q with h | ⟨_, o, h, _⟩
      · rw [Heap.get?_push_size _ rfl] at h; cases h
      · rw [fresh] at h; cases h
    have I := fun X' U hu => IterS.ofWalks (c := c) (X := X') (fp := fun b => ¬ U b) (wr := fun b => ¬ U b ∧ s.heap.get? b = none) (by rintro b' hb'; simp at hb'; rw [hb']; exact hU U hu) ⟨hU U hu, fresh⟩ (fun b h => h.1) Wk (g.gd.ne_of_none fresh) (by rintro b' hb'; simp at hb'; rw [hb']; exact g.gd.ne_of_none fresh) (charsD x)
      (by simp [charsD])
      (fun i h ⟨o, e, hc, hd⟩ => ⟨o, _, _, e, hc, hty, hd, by simp, by intro q t; simp⟩)
      (fun s T => True) (fun s T s' T' W gi hD g' x hs => trivial)
      (fun s T i v d hD hv hd => charsD_get hv hd)
    exact ⟨T, st.g, fun X' U zz hX' hu => ⟨_, I X' U hu, ⟨0, rfl, Nat.zero_le _, ⟨_, Heap.get?_push_size _ rfl, rfl, rfl⟩, trivial⟩⟩, by simp⟩
  cases ha : x.cps.all (· < 128)
  · exact wpAny_pyIter_wide ha (main _ (Walks.strWide hA _ x t) (by decide))
  · exact wpAny_pyIter_ascii ha (main _ (Walks.strAscii hA _ x t) (by decide))

theorem itr_val {d : D} {v : Value} {ds : List D} (hA : A.handled = none) (g : Ok c s T) (h : itemsD d = some ds) (hv : Rp s.heap T X d v) :
    wpAny (model c.prog c.w) A (pyIter v) (ItR c A X none s T ds) noE s := by
  cases d <;> simp only [itemsD] at h <;> try (cases h; done)
  · cases h; simp only [Rp] at hv; obtain ⟨_, t, rfl⟩ := hv
    exact itr_str hA g
  · cases h; simp only [Rp] at hv; obtain ⟨_, a, vs, rfl, ha, hl, H⟩ := hv
    exact itr_list hA g ha hl H
  · cases h; simp only [Rp] at hv; obtain ⟨_, a, vs, rfl, ha, hl, H⟩ := hv
    exact itr_tup hA g ha hl H

theorem draw_ok {it : Value} {fp wr : Addr → Prop} {St : List D → Shared → Gh → Prop} (I : IterS c A X it fp wr none St) (hwX : ∀ b, wr b → ¬ X b) (hfX : ∀ b, fp b ∨ X b) : ∀ (ds : List D) (s : Shared) (T : Gh), St ds s T → Ok c s T → Al c s.heap X →
    wpAny (model c.prog c.w) A (draw it ds.length) (fun vs s' => ∃ T', StepG c wr none s T s' T' ∧ RpL s'.heap T' X ds vs ∧ St [] s' T' ∧ ∀ d v, Rp s.heap T X d v → Rp s'.heap T' X d v) noE s
  | [], s, T, hst, g, hX => by
    show wpAny _ _ (pure []) _ _ s
    exact wpAny_pure ⟨T, StepG.refl, by simp only [RpL], hst, fun zz zz h => h⟩
  | d :: ds, s, T, hst, g, hX => by
    show wpAny _ _ (pyNext it >>= _) _ _ s
    refine wpAny_bind (wpAny_mono (I.next d ds s T hst g hX fun b => (hfX b).imp id fun q => (hX b q).2) (fun r s₁ ⟨v, T₁, w, hr, hw, hs, st, rv, hst₁⟩ => ?_) fun zz zz e => e)
    subst hr
    refine wpAny_bind (wpAny_holding (wpAny_mono (draw_ok I hwX hfX ds s₁ T₁ hst₁ (st.ok g) (st.al hX fun b w' q => absurd q (hwX b (hw b w')))) (fun vs s₂ ⟨T₂, st₂, rvs, hst₂, hk⟩ => wpAny_pure ?_) fun zz zz e => e))
    exact ⟨T₂, (st.mono fun b w' => .inl (hw b w')).trans st₂, RpL.cons_iff.mpr ⟨hk _ _ rv, rvs⟩, hst₂, fun d v h => hk d v (st.rp g.gd hs h)⟩

theorem unpackItems_ok {d : D} {v : Value} {ds : List D} (hA : A.handled = none) (g : Ok c s T) (hX : Al c s.heap X) (hl : d = .list ds ∨ d = .tup ds) (hv : Rp s.heap T X d v) :
    wpAny (model c.prog c.w) A (unpackItems v ds.length none) (ResL c s T X ds) noE s := by
  have h : itemsD d = some ds := by rcases hl with rfl | rfl <;> rfl
  have hit := itr_val hA g h hv
  have hni : ∀ {Q : Bool → Shared → Prop}, Q false s → wpAny (model c.prog c.w) A (notIterableAtAll v) Q noE s := fun hQ => by
    unfold notIterableAtAll
    rcases hl with rfl | rfl
    · simp only [Rp] at hv; obtain ⟨_, a, vs, rfl, ha, hl, H⟩ := hv
      exact wpAny_bind (wpAny_specialOf hl.isList.typeIs slot_list_iter.lookup (wpAny_pure hQ))
    · simp only [Rp] at hv; obtain ⟨_, a, vs, rfl, ha, ⟨n, hl⟩, H⟩ := hv
      exact wpAny_bind (wpAny_specialOf (T := "tuple") ⟨_, hl, rfl⟩ PySem.F.slot_tuple_iter.lookup (wpAny_pure hQ))
  unfold unpackItems
  refine wpAny_bind (hni ?_)
  simp only [Bool.false_eq_true, if_false]
  refine wpAny_bind (wpAny_holding (wpAny_mono hit (fun it s₁ ⟨T₁, st, hI, _⟩ => ?_) fun zz zz e => e))
  obtain ⟨St, I, hst⟩ := hI X X (fun b h => h) (fun b h => .inl h) fun b h => .inr ⟨(hX b h).1, let ⟨o, e⟩ := (hX b h).2; ⟨o, e, .inl h⟩⟩
  have g₁ := st.ok g
  refine wpAny_bind (wpAny_holding (wpAny_mono (draw_ok I (fun b h => h.1) (fun b => (Classical.em (X b)).symm) ds s₁ T₁ hst g₁ (st.al hX fun b w => w.elim)) (fun vs s₂ ⟨T₂, st₂, rvs, hst₂, _⟩ => ?_) fun zz zz e => e))
  rw [if_neg (by rw [rvs.length]; omega)]
  have g₂ := st₂.ok g₁
  have hX₂ : Al c s₂.heap X := st₂.al (st.al hX fun b w => w.elim) fun b w q => absurd q w.1
  refine wpAny_bind (wpAny_holding (wpAny_mono (I.stop s₂ T₂ hst₂ g₂ fun b => (Classical.em (X b)).symm.imp id fun q => (hX₂ b q).2) (fun r s₃ ⟨T₃, w, hr, hw, hs, st₃, _⟩ => ?_) fun zz zz e => e))
  subst hr
  simp only [Option.isSome_none, Bool.false_eq_true, if_false]
  refine wpAny_pure ⟨T₃, ?_, st₃.rpL g₂.gd hs rvs⟩
  exact (((st.mono fun b h => h.elim).trans st₂).trans (st₃.mono fun b h => .inl (hw b h))).step fun b h => h.2

noncomputable def NamesS (ts : List Expr) (xs : List Str) (t : Expr) : Prop := namesOf (t :: ts) = some xs → ∃ x px xs', t = .Name x px ∧ namesOf ts = some xs' ∧ x :: xs' = xs
theorem namesNo {t : Expr} {ts : List Expr} {xs : List Str} (h : namesOf (t :: ts) = none) : NamesS ts xs t := fun q => noneE (h.symm.trans q)
theorem names_cons (t : Expr) {ts : List Expr} {xs : List Str} : NamesS ts xs t := by
  cases t with
  | Name x px =>
    intro h
    obtain ⟨xs', h1, h2⟩ := Option.map_eq_some_iff.mp (show (namesOf ts).map (x :: ·) = some xs from h)
    exact ⟨x, px, xs', rfl, h1, h2⟩
  | _ => exact namesNo (Eq.refl none)
noncomputable def BindS (sc : Scope) (σ σ' : Sig) (d : D) (t : Expr) : Prop := bindT sc t d σ = some σ' → (∃ x px, t = .Name x px ∧ stOk sc x = true ∧ Sig.set σ x d = σ') ∨
  ∃ ts k tp xs ds, t = .Tuple ts k tp ∧ namesOf ts = some xs ∧ (d = .list ds ∨ d = .tup ds) ∧ (ds.length == xs.length && xs.all (stOk sc)) = true ∧ setAll σ xs ds = some σ'
theorem bindNo {σ σ' : Sig} {d : D} {t : Expr} (h : bindT sc t d σ = none) : BindS sc σ σ' d t := fun q => noneE (h.symm.trans q)
set_option tactic.hygienic true
theorem bind_view {σ σ' : Sig} {d : D} (t : Expr) : BindS sc σ σ' d t := by
  induction t using Expr.casesOn with
  | Name x px =>
    intro h
    replace h : (if stOk sc x = true then some (Sig.set σ x d) else none) = some σ' := h
    split at h
    · rename_i hx; exact .inl ⟨x, px, rfl, hx, Option.some.inj h⟩
    · cases h
  | Tuple ts k tp =>
    intro h
    replace h : (match (generalizing := false) namesOf ts, d with
      | some xs, .list ds => if (ds.length == xs.length && xs.all (stOk sc)) = true then setAll σ xs ds else none
      | some xs, .tup ds => if (ds.length == xs.length && xs.all (stOk sc)) = true then setAll σ xs ds else none
      | _, _ => none) = some σ' := h
    cases hn : namesOf ts with
    | none => rw [hn] at h; exact noneE h
    | some xs =>
      rw [hn] at h
      induction d using D.casesOn with
      | list ds =>
        replace h : (if (ds.length == xs.length && xs.all (stOk sc)) = true then setAll σ xs ds else none) = some σ' := h
        split at h
        · rename_i hc; exact .inr ⟨ts, k, tp, xs, ds, rfl, hn, .inl rfl, hc, h⟩
        · cases h
      | tup ds =>
        replace h : (if (ds.length == xs.length && xs.all (stOk sc)) = true then setAll σ xs ds else none) = some σ' := h
        split at h
        · rename_i hc; exact .inr ⟨ts, k, tp, xs, ds, rfl, hn, .inr rfl, hc, h⟩
        · cases h
      | _ => exact noneE h
  | _ => exact bindNo (Eq.refl none)

set_option tactic.hygienic false
theorem inOrder_ok : ∀ (ts : List Expr) (xs : List Str) (ds : List D) (vs : List Value) (s : Shared) (T : Gh) (σ σ' : Sig) (Q : Unit → Shared → Prop) (E : Value → Shared → Prop), namesOf ts = some xs → xs.all (stOk sc) = true → setAll σ xs ds = some σ' → Ok c s T → FrameOK s.heap T env sc σ X → RpL s.heap T X ds vs →
    (∀ s', StepG c (EnvW env sc) none s T s' T → FrameOK s'.heap T env sc σ' X → Q () s') → wpAny (model c.prog c.w) A (assignInOrder ((assignEach ts env).map (·.2)) vs) Q E s
  | [], xs, ds, vs, s, T, σ, σ', Q, E, hn, hx, hs, g, F, H, hQ => by
    cases hn
    cases ds with
    | nil =>
      cases hs
      have H : vs = [] := by simpa only [RpL] using H
      subst H
      exact wpAny_pure (hQ s StepG.refl F)
    | cons _ _ => exact noneE hs
  | t :: ts, xs, ds, vs, s, T, σ, σ', Q, E, hn, hx, hs, g, F, H, hQ => by
    obtain ⟨x, px, xs', rfl, hn', rfl⟩ := names_cons t hn
    rw [List.all_cons, Bool.and_eq_true] at hx
    cases ds with
    | nil => exact noneE hs
    | cons d ds =>
      replace hs : setAll (Sig.set σ x d) xs' ds = some σ' := hs
      simp only [RpL] at H
      obtain ⟨v, vs', rfl, h1, h2⟩ := H
      show wpAny _ _ (holding vs' (assign (.Name x px) env v) >>= fun zz => assignInOrder ((assignEach ts env).map (·.2)) vs') Q E s
      refine wpAny_bind (wpAny_holding (wpAny_assign_Name (store_ok g F hx.1 h1 fun s' st F' => ?_)))
      exact inOrder_ok ts xs' ds vs' s' T _ σ' Q E hn' hx.2 hs (st.ok g) F' (st.rpL g.gd F.soft h2) fun s'' st' F'' => hQ s'' (st.trans st') F''

theorem assignEach_names : ∀ {ts : List Expr} {xs : List Str}, namesOf ts = some xs → (assignEach ts env).length = xs.length ∧ (assignEach ts env).findIdx? (·.1) = none
  | [], xs, h => by cases h; exact ⟨rfl, rfl⟩
  | t :: ts, xs, h => by
    obtain ⟨x, px, xs', rfl, h', rfl⟩ := names_cons t h
    have ih := assignEach_names h'
    have e : assignEach (.Name x px :: ts) env = (false, assign (.Name x px) env) :: assignEach ts env := rfl
    rw [e, List.length_cons, ih.1, List.findIdx?_cons, ih.2]
    exact ⟨rfl, rfl⟩

theorem FrameOK.res (F : FrameOK s.heap T env sc σ X) (g : Ok c s T) {s' : Shared} {T' : Gh} (st : Step c s T s' T') : FrameOK s'.heap T' env sc σ X := F.step g.gd st

theorem bind_ok {t : Expr} {d : D} {v : Value} {σ' : Sig} {Q : Unit → Shared → Prop} (hA : A.handled = none) (g : Ok c s T) (hX : Al c s.heap X) (F : FrameOK s.heap T env sc σ X) (h : bindT sc t d σ = some σ') (hv : Rp s.heap T X d v)
    (hQ : ∀ s' T', StepG c (EnvW env sc) none s T s' T' → FrameOK s'.heap T' env sc σ' X → Q () s') : wpAny (model c.prog c.w) A (assign t env v) Q noE s := by
  obtain ⟨x, px, rfl, hx, rfl⟩ | ⟨ts, k, tp, xs, ds, rfl, hn, hd, hc, hs⟩ := bind_view t h
  · exact wpAny_assign_Name (store_ok g F hx hv fun s' st F' => hQ s' T st F')
  · rw [arm_assign_Tuple]
    refine wpAny_bind (wpAny_standAt ?_)
    rw [Bool.and_eq_true, beq_iff_eq] at hc
    obtain ⟨e1, e2⟩ := assignEach_names (env := env) hn
    unfold unpack
    rw [e1, e2, ← hc.1]
    refine wpAny_bind (wpAny_holding (wpAny_mono (unpackItems_ok hA g hX hd hv) (fun vs s₁ ⟨T₁, st, H⟩ => ?_) fun zz zz e => e))
    exact inOrder_ok ts xs ds vs s₁ T₁ σ σ' Q noE hn hc.2 hs (st.ok g) (F.step g.gd st) H fun s' st' F' => hQ s' T₁ (st.g.trans st') F'

theorem ItR.pre {s₁ : Shared} {T₁ : Gh} {gi : Option Nat} {ds : List D} {it : Value} {s' : Shared} (g : Ok c s T) (st : Step c s T s₁ T₁) (h : ItR c A X gi s₁ T₁ ds it s') : ItR c A X gi s T ds it s' := by
  obtain ⟨T', st', hI, hgi⟩ := h
  have g₁ := st.ok g
  have back : ∀ b, s₁.heap.get? b = none → s.heap.get? b = none := fun b hb => by
    cases e : s.heap.get? b with
    | none => rfl
    | some o => rw [st.keep b o (g₁.gd.ne_of_none hb) e] at hb; cases hb
  refine ⟨T', st.g.trans st', fun X' U hXU hX' hU => ?_, fun i hi => Nat.le_trans st.gsz (hgi i hi)⟩
  obtain ⟨St, I, hst⟩ := hI X' U hXU hX' fun b hb => (hU b hb).imp id fun ⟨hP, o, e, r⟩ => ⟨hP, o, st.keep b o hP e, r⟩
  refine ⟨St, ⟨fun d ds s T h1 h2 h3 h4 => ?_, fun s T h1 h2 h3 => ?_, I.self, I.own, I.frame, fun b h => h.1⟩, hst⟩
  · exact wpAny_mono (I.next d ds s T h1 h2 h3 h4) (fun r s' ⟨v, T', w, q1, q2, q3⟩ => ⟨v, T', w, q1, fun b hb => ⟨(q2 b hb).1, back b (q2 b hb).2⟩, q3⟩) fun zz zz e => e
  · exact wpAny_mono (I.stop s T h1 h2 h3) (fun r s' ⟨T', w, q1, q2, q3⟩ => ⟨T', w, q1, fun b hb => ⟨(q2 b hb).1, back b (q2 b hb).2⟩, q3⟩) fun zz zz e => e

end Mine
end

section
open PySem PySem.W PyProof.Rows PySem.SeqAt
set_option maxRecDepth 100000
namespace Mine
variable {c : Cx} {A : Around} {s : Shared} {T : Gh} {X : Addr → Prop} {env : Env} {sc : Scope} {σ : Sig}

structure ItS (c : Cx) (A : Around) (env : Env) (sc : Scope) (σ : Sig) (X : Addr → Prop) (f : Expr → Option (List D)) : Prop where
  plain : ∀ e ds, f e = some ds → plainE e = true
  ok : ∀ e ds s T, f e = some ds → Ok c s T → Al c s.heap X → FrameOK s.heap T env sc σ X →
    wpAny (model c.prog c.w) A (eval e env) (fun xv s₁ => wpAny (model c.prog c.w) A (pyIter xv) (fun it s₂ => ∃ gi, (genCall e = false → gi = none) ∧ ItR c A X gi s T ds it s₂) noE s₁) noE s

set_option tactic.hygienic false
theorem folded_plain {e : Expr} (h : plainE e = true) (x : Value) : foldedSetIterable e env x = pure x := by
  cases e <;> first | rfl | cases h

theorem tests_false : ∀ (ifs : List Expr) {Q : Bool → Shared → Prop} {E : Value → Shared → Prop}, Q false s →
    wpAny (model c.prog c.w) A (forIn ifs false fun c r => if r = true then do let ok ← isTrue c env (eval c env); pure (ForInStep.yield ok) else pure (ForInStep.yield r)) Q E s
  | [], Q, E, h => wpAny_pure h
  | i :: ifs, Q, E, h => by
    rw [List.forIn_cons]
    exact wpAny_bind (wpAny_pure (tests_false ifs h))
set_option tactic.hygienic true
theorem tests_ok {f : Expr → Option Bool} (E : TrS c A env sc σ X f) : ∀ (ifs : List Expr) (b : Bool) (s : Shared) (T : Gh), ifsT f ifs = some b → Ok c s T → Al c s.heap X → FrameOK s.heap T env sc σ X →
    wpAny (model c.prog c.w) A (forIn ifs true fun c r => if r = true then do let ok ← isTrue c env (eval c env); pure (ForInStep.yield ok) else pure (ForInStep.yield r)) (ResB c s T b) noE s
  | [], b, s, T, h, g, hX, F => by
    simp only [ifsT] at h; cases h
    exact wpAny_pure ⟨rfl, T, Step.refl c s T⟩
  | i :: ifs, b, s, T, h, g, hX, F => by
    simp only [ifsT] at h
    rw [List.forIn_cons]
    simp only [if_true]
    split at h
    · rename_i hi
      refine wpAny_bind (wpAny_bind (wpAny_mono (E _ _ _ _ hi g hX F) (fun r s₁ ⟨e, T₁, st⟩ => wpAny_pure ?_) fun zz zz e => e))
      subst e
      exact wpAny_mono (tests_ok E ifs b s₁ T₁ h (st.ok g) (st.al hX) (F.step g.gd st)) (fun zz zz q => st.resB q) fun zz zz e => e
    · rename_i hi
      cases h
      refine wpAny_bind (wpAny_bind (wpAny_mono (E _ _ _ _ hi g hX F) (fun r s₁ ⟨e, T₁, st⟩ => wpAny_pure ?_) fun zz zz e => e))
      subst e
      exact tests_false ifs ⟨rfl, T₁, st⟩
    · cases h

structure CS (c : Cx) (X : Addr → Prop) (cenv : Env) (scope : Scope) (D : Addr) (s : Shared) (T : Gh) (σ : Sig) (acc : List Mine.D) : Prop where
  ok : Ok c s T
  al : Al c s.heap X
  fr : FrameOK s.heap T cenv scope σ X
  acc : ∃ vs : List Value, s.heap.PlainList D vs.toArray ∧ RpL s.heap T X acc vs

set_option tactic.hygienic false
theorem CS.stepG {cenv : Env} {scope : Scope} {D : Addr} {acc : List Mine.D} {s' : Shared} {T' : Gh} {W : Addr → Prop} {gi : Option Nat} (x : CS c X cenv scope D s T σ acc) (st : StepG c W gi s T s' T') (soft : Soft s.heap W X)
    (hw : ∀ b, EnvA cenv b → ¬ W b) (hX : ∀ b, W b → ¬ X b) (hD : X D) : CS c X cenv scope D s' T' σ acc := by
  refine ⟨st.ok x.ok, st.al x.al fun b w q => absurd q (hX b w), x.fr.stepG x.ok.gd st soft hw, ?_⟩
  obtain ⟨vs, ⟨n, h1⟩, h2⟩ := x.acc
  exact ⟨vs, ⟨n, st.keep D _ (x.ok.gd.notP h1 (by simp)) (fun w => hX D w hD) h1⟩, st.rpL x.ok.gd soft h2⟩
theorem CS.step {cenv : Env} {scope : Scope} {D : Addr} {acc : List Mine.D} {s' : Shared} {T' : Gh} (x : CS c X cenv scope D s T σ acc) (st : Step c s T s' T') : CS c X cenv scope D s' T' σ acc := by
  refine ⟨st.ok x.ok, st.al x.al, x.fr.step x.ok.gd st, ?_⟩
  obtain ⟨vs, ⟨n, h1⟩, h2⟩ := x.acc
  exact ⟨vs, ⟨n, st.keep D _ (x.ok.gd.notP h1 (by simp)) h1⟩, st.rpL x.ok.gd h2⟩
theorem FrameOK.weak {h : Heap} {σ' : Sig} (F : FrameOK h T env sc σ' X) (hs : ∀ x d, σ x = some d → σ' x = some d) : FrameOK h T env sc σ X :=
  ⟨F.eok, F.ns, F.cells, fun x d e => F.has x d (hs x d e)⟩

theorem setAll_mono : ∀ {xs : List Str} {ds : List D} {σ σ' σ₀ : Sig}, setAll σ xs ds = some σ' → (xs.all fun x => (σ₀ x).isNone) = true → (∀ x d, σ₀ x = some d → σ x = some d) → ∀ x d, σ₀ x = some d → σ' x = some d
  | [], [], σ, σ', σ₀, h, _, hm => by simp only [setAll] at h; cases h; exact hm
  | [], _ :: _, σ, σ', σ₀, h, _, hm => by simp only [setAll] at h; cases h
  | _ :: _, [], σ, σ', σ₀, h, _, hm => by simp only [setAll] at h; cases h
  | x :: xs, d :: ds, σ, σ', σ₀, h, hu, hm => by
    simp only [setAll] at h
    rw [List.all_cons, Bool.and_eq_true] at hu
    refine setAll_mono h hu.2 fun y e hy => ?_
    unfold Sig.set
    rw [if_neg (fun q => by rw [q] at hy; rw [hy] at hu; simp at hu)]
    exact hm y e hy
set_option tactic.hygienic true
theorem bind_mono {t : Expr} {d : D} {σ' : Sig} (hu : unset σ t = true) (h : bindT sc t d σ = some σ') : ∀ x d, σ x = some d → σ' x = some d := by
  cases t <;> simp only [unset] at hu <;> try (cases hu; done)
  · simp only [bindT] at h
    split at h
    · cases h
      intro y e hy
      unfold Sig.set
      rw [if_neg (fun q => by rw [q] at hy; rw [hy] at hu; simp at hu)]
      exact hy
    · cases h
  · simp only [bindT] at h
    split at hu
    · rename_i ts _ _ xs hn
      rw [hn] at h
      cases d <;> simp only at h <;> try (cases h; done)
      · split at h
        · exact setAll_mono h hu fun zz zz e => e
        · cases h
      · split at h
        · exact setAll_mono h hu fun zz zz e => e
        · cases h
    · cases hu

set_option tactic.hygienic false
theorem compTurn_at {elt t iter : Expr} {ifs : List Expr} {gens : List Comprehension} {k : Nat} {scope : Scope} {pos : Pos} {it acc : Value} {env : Env} (hk : gens[k]? = some ⟨t, iter, ifs, 0⟩) :
    compTurn (.ListComp elt gens scope pos) k it acc env = (do
      standAt iter.pos
      match ← pyNext it with
      | none => pure (.done .next)
      | some v =>
        letOwnedTupleGo t it v
        assign t env v
        let ok ← forIn ifs true fun c r => if r = true then do let ok ← isTrue c env (eval c env); pure (ForInStep.yield ok) else pure (ForInStep.yield r)
        if ok = true then
          match gens[k + 1]? with
          | some g' =>
            let x ← eval g'.iter env
            standAt g'.iter.pos
            let x ← if g'.is_async != 0 then foldedIterable g'.iter x else foldedSetIterable g'.iter env x
            let _ ← runOwn (.compStart (.ListComp elt gens scope pos) (k + 1) (← holding [x] (if g'.is_async != 0 then asyncIter x else pyIter x)) acc env) env
            again (.compLoop (.ListComp elt gens scope pos) k it acc env)
          | none => do
            (do let x ← eval elt env; let _ ← call (.builtin "list.append") [acc, x]; pure ())
            again (.compLoop (.ListComp elt gens scope pos) k it acc env)
        else again (.compLoop (.ListComp elt gens scope pos) k it acc env)) := by
  unfold compTurn
  simp only [hk]
  rfl

noncomputable def CW (cenv : Env) (D : Addr) (b : Addr) : Prop := b = cenv.locals ∨ b = D

theorem EnvW.only {cenv : Env} {scope : Scope} (hloc : ∀ f, scope.names.lookup f ≠ some .cell) {b : Addr} (h : EnvW cenv scope b) : b = cenv.locals := by
  rcases h with h | ⟨f, h1, _⟩
  · exact h
  · exact absurd h1 (hloc f)

set_option tactic.hygienic true
theorem loop_core {K : Know} {evf : Sig → Expr → Option D} {trf : Sig → Expr → Option Bool} {cenv : Env} {scope : Scope} {D : Addr} (hA : A.handled = none) (HT : ∀ σ, TrS c A cenv scope σ X (trf σ)) (hD : X D)
    (hloc : ∀ f, scope.names.lookup f ≠ some .cell) {elt : Expr} {gens gs : List Comprehension} {pos : Pos} {k : Nat} {t iter : Expr} {ifs : List Expr} (hk : gens[k]? = some ⟨t, iter, ifs, 0⟩) {f : Sig → Option (List Mine.D)} {it : Value}
    (Hbody : ∀ σ' here s T acc (Q : Fin → Shared → Prop), f σ' = some here → CS c X cenv scope D s T σ' acc → acc.length + here.length ≤ big →
      (∀ s' T', StepG c (CW cenv D) none s T s' T' → CS c X cenv scope D s' T' σ' (acc ++ here) → wpAny (model c.prog c.w) A (again (.compLoop (.ListComp elt gens scope pos) k it (.ref D) cenv)) Q noE s') →
      wpAny (model c.prog c.w) A (match gens[k + 1]? with
          | some g' => do
            let x ← eval g'.iter cenv
            standAt g'.iter.pos
            let x ← if g'.is_async != 0 then foldedIterable g'.iter x else foldedSetIterable g'.iter cenv x
            let _ ← runOwn (.compStart (.ListComp elt gens scope pos) (k + 1) (← holding [x] (if g'.is_async != 0 then asyncIter x else pyIter x)) (.ref D) cenv) cenv
            again (.compLoop (.ListComp elt gens scope pos) k it (.ref D) cenv)
          | none => do
            (do let x ← eval elt cenv; let _ ← call (.builtin "list.append") [.ref D, x]; pure ())
            again (.compLoop (.ListComp elt gens scope pos) k it (.ref D) cenv)) Q noE s)
    {ds out acc : List Mine.D} {fp wr : Addr → Prop} {gi : Option Nat} {St : List Mine.D → Shared → Gh → Prop} (I : IterS c A X it fp wr gi St) (hfp : ∀ b, fp b → ¬ EnvA cenv b ∧ ¬ X b) (hfp' : ∀ b, fp b ∨ EnvA cenv b ∨ X b) (hst : St ds s T)
    (cs : CS c X cenv scope D s T σ acc) (h : compL f scope t trf ifs σ ds = some out) (hl : acc.length + out.length ≤ big) :
    codeAny (model c.prog c.w) A (.compLoop (.ListComp elt gens scope pos) k it (.ref D) cenv) (fun r s' => ∃ fl, r = .ok fl ∧ ∃ T', StepG c (fun b => CW cenv D b ∨ wr b) gi s T s' T' ∧ CS c X cenv scope D s' T' σ (acc ++ out) ∧
      ∀ i, gi = some i → s'.gens[i]? = some .finished) s := by
  refine codeAny_loop rfl (fun n s' => ∃ T' ds' out' acc', n = ds'.length ∧ St ds' s' T' ∧ CS c X cenv scope D s' T' σ acc' ∧ compL f scope t trf ifs σ ds' = some out' ∧ acc' ++ out' = acc ++ out ∧ StepG c (fun b => CW cenv D b ∨ wr b) gi s T s' T') (fun n s₀ hI => ?_) ds.length
    ⟨T, ds, out, acc, rfl, hst, cs, h, rfl, StepG.refl⟩
  obtain ⟨T₀, ds₀, out₀, acc₀, rfl, hst₀, cs₀, h₀, hacc, st₀⟩ := hI
  show wpAny _ A ((compTurn (.ListComp elt gens scope pos) k it (.ref D) cenv).onRaise (fun x => do noteFrame x cenv; theTreesLotGoes x)) _ _ s₀
  refine wpAny_noted (wpAny_mono (E := noE) ?_ (fun zz zz q => q) fun zz zz e => e.elim)
  rw [compTurn_at hk]
  refine wpAny_bind (wpAny_standAt (wpAny_bind ?_))
  have hwr : ∀ b, EnvA cenv b → ¬ wr b := fun b e w => (hfp b (I.sub b w)).1 e
  have hwX : ∀ b, wr b → ¬ X b := fun b w => (hfp b (I.sub b w)).2
  cases ds₀ with
  | nil =>
    simp only [compL] at h₀; cases h₀
    refine wpAny_mono (I.stop s₀ T₀ hst₀ cs₀.ok fun b => (hfp' b).imp id fun q => q.elim (fun q => let ⟨o, e, _⟩ := cs₀.fr.notSeq b q; ⟨o, e⟩) fun q => (cs₀.al b q).2) (fun r s₁ ⟨T₁, w, hr, hw, hs, st₁, hfin⟩ => ?_) fun zz zz e => e
    subst hr
    refine wpAny_pure ⟨_, rfl, T₁, st₀.trans (st₁.mono fun b h => .inl (.inr (hw b h))), ?_, hfin⟩
    rw [← hacc, List.append_nil]
    exact cs₀.stepG st₁ hs (fun b e h => hwr b e (hw b h)) (fun b h => hwX b (hw b h)) hD
  | cons d ds₁ =>
    simp only [compL] at h₀
    split at h₀
    · rename_i hun
      rw [Option.bind_eq_some_iff] at h₀
      obtain ⟨σ', hb, h₀⟩ := h₀
      rw [Option.bind_eq_some_iff] at h₀
      obtain ⟨ok, htst, h₀⟩ := h₀
      refine wpAny_mono (I.next d ds₁ s₀ T₀ hst₀ cs₀.ok cs₀.al fun b => (hfp' b).imp id fun q => q.elim (fun q => let ⟨o, e, _⟩ := cs₀.fr.notSeq b q; ⟨o, e⟩) fun q => (cs₀.al b q).2) (fun r s₁ ⟨v, T₁, w, hr, hw, hs, st₁, rv, hst₁⟩ => ?_) fun zz zz e => e
      subst hr
      have cs₁ := cs₀.stepG st₁ hs (fun b e h => hwr b e (hw b h)) (fun b h => hwX b (hw b h)) hD
      refine wpAny_bind (I.own _ _ _ _ _ _ hst₁ ?_)
      refine wpAny_bind (bind_ok hA cs₁.ok cs₁.al cs₁.fr hb rv fun s₂ T₂ st₂ fr₂ => ?_)
      have hD' : ∀ b, EnvW cenv scope b → ¬ b = D := fun b hb q => by
        obtain ⟨o, e, hn⟩ := cs₁.fr.notSeq b hb.a
        obtain ⟨vs, ⟨n, e'⟩, _⟩ := cs₁.acc
        rw [q, e'] at e; cases e; exact hn _ _ rfl
      have cs₂ : CS c X cenv scope D s₂ T₂ σ' acc₀ := by
        refine ⟨st₂.ok cs₁.ok, st₂.al cs₁.al fun b w zz => ?_, fr₂, ?_⟩
        · obtain ⟨o, e, _⟩ := fr₂.notSeq b w.a; exact ⟨o, e⟩
        · obtain ⟨vs, ⟨n, h1⟩, h2⟩ := cs₁.acc
          exact ⟨vs, ⟨n, st₂.keep D _ (cs₁.ok.gd.notP h1 (by simp)) (fun w => hD' D w rfl) h1⟩, st₂.rpL cs₁.ok.gd cs₁.fr.soft h2⟩
      have hst₂ : St ds₁ s₂ T₂ := I.frame _ _ _ _ _ _ hst₁ cs₁.ok.gd st₂ (fun b hb w => (hfp b hb).1 w.a) cs₁.fr.soft
      refine wpAny_bind (wpAny_mono (tests_ok (HT σ') ifs ok s₂ T₂ htst cs₂.ok cs₂.al cs₂.fr) (fun ok' s₃ ⟨e, T₃, st₃⟩ => ?_) fun zz zz e => e)
      subst e
      have cs₃ := cs₂.step st₃
      have noW : Soft s₂.heap (fun zz => False) X := fun b o w => w.elim
      have hst₃ : St ds₁ s₃ T₃ := I.frame _ _ _ _ _ (fun zz => False) hst₂ cs₂.ok.gd st₃.g (fun b hb w => w) noW
      have sofar : StepG c (fun b => CW cenv D b ∨ wr b) gi s T s₃ T₃ := ((st₀.trans (st₁.mono fun b h => .inl (.inr (hw b h)))).trans ((st₂.mono fun b w => .inl (.inl (.inl (EnvW.only hloc w)))).gi)).trans st₃.g
      have weak := bind_mono hun hb
      cases ok' with
      | false =>
        rw [if_neg (by simp)] at h₀
        rw [if_neg (by simp)]
        exact wpAny_pure ⟨rfl, ds₁.length, by simp, T₃, ds₁, out₀, acc₀, rfl, hst₃, ⟨cs₃.ok, cs₃.al, cs₃.fr.weak weak, cs₃.acc⟩, h₀, hacc, sofar⟩
      | true =>
        rw [if_pos rfl, Option.bind_eq_some_iff] at h₀
        obtain ⟨here, hf, h₀⟩ := h₀
        rw [Option.map_eq_some_iff] at h₀
        obtain ⟨out₁, h₁, rfl⟩ := h₀
        rw [if_pos rfl]
        refine Hbody σ' here s₃ T₃ acc₀ _ hf cs₃ ?_ fun s₄ T₄ st₄ cs₄ => ?_
        · have := congrArg List.length hacc
          simp only [List.length_append] at this; omega
        · have soft₃ : Soft s₃.heap (CW cenv D) X := by
            rintro b o (rfl | rfl) e
            · obtain ⟨o', e', hn⟩ := cs₃.fr.notSeq cenv.locals (.inl rfl)
              rw [e] at e'; cases e'; exact .inr hn
            · exact .inl hD
          have hst₄ : St ds₁ s₄ T₄ := I.frame _ _ _ _ _ _ hst₃ cs₃.ok.gd st₄ (fun b hb w => by
            rcases w with rfl | rfl
            · exact (hfp _ hb).1 (.inl rfl)
            · exact (hfp _ hb).2 hD) soft₃
          exact wpAny_pure ⟨rfl, ds₁.length, by simp, T₄, ds₁, out₁, acc₀ ++ here, rfl, hst₄, ⟨cs₄.ok, cs₄.al, cs₄.fr.weak weak, cs₄.acc⟩, h₁, by rw [← hacc, List.append_assoc], sofar.trans ((st₄.mono fun b w => .inl (.inl w)).gi)⟩
    · cases h₀

end Mine
end

section
open PySem PySem.W PyProof.Rows PySem.SeqAt
set_option maxRecDepth 100000
namespace Mine
variable {c : Cx} {A : Around} {s : Shared} {T : Gh} {X : Addr → Prop} {env : Env} {sc : Scope} {σ : Sig}

set_option tactic.hygienic false
theorem compStart_at {elt t iter : Expr} {ifs : List Expr} {gens : List Comprehension} {k : Nat} {scope : Scope} {pos : Pos} {it acc : Value} {R : Result → Shared → Prop} (hk : gens[k]? = some ⟨t, iter, ifs, 0⟩)
    (h0 : codeAny (model c.prog c.w) A (.compLoop (.ListComp elt gens scope pos) k it acc env) R s)
    (h : wpAny (model c.prog c.w) A (pyIter it) (fun it' s' => codeAny (model c.prog c.w) A (.compLoop (.ListComp elt gens scope pos) k it' acc env) R s') noE s) :
    codeAny (model c.prog c.w) A (.compStart (.ListComp elt gens scope pos) k it acc env) R s := by
  refine codeAny_of_tree ?_
  show wpAny _ _ ((compStart (.ListComp elt gens scope pos) k it acc env).onRaise (fun x => do noteFrame x env; standAt theWindowsPlace)) _ _ s
  refine wpAny_notedAt ?_
  unfold compStart
  have hc : (clausesOf (.ListComp elt gens scope pos))[k]? = some ⟨t, iter, ifs, 0⟩ := hk
  rw [hc]
  show wpAny _ _ (ask >>= _) _ _ s
  refine wpAny_bind (wpAny_askSetting (wpAny_ite ?_))
  split
  · first
      | exact wpAny_bind (wpAny_pure (wpAny_pure (And.intro rfl h0)))
      | exact wpAny_pure (And.intro rfl h0)
  · first
      | exact wpAny_bind (wpAny_rule (wpAny_bind (wpAny_standAt (wpAny_bind (wpAny_mono h (fun it' s' h' => wpAny_pure (And.intro rfl h')) fun zz zz x => x.elim)))))
      | (refine wpAny_bind (wpAny_rule ?_); show wpAny _ _ (standAt iter.pos >>= _) _ _ s; exact wpAny_bind (wpAny_standAt (wpAny_bind (wpAny_mono h (fun it' s' h' => wpAny_pure (And.intro rfl h')) fun zz zz x => x.elim))))

set_option tactic.hygienic true
theorem loop_ok {K : Know} {evf : Sig → Expr → Option D} {trf : Sig → Expr → Option Bool} {cenv : Env} {scope : Scope} {D : Addr} (hA : A.handled = none) (HE : ∀ σ, EvS c A cenv scope σ X (evf σ)) (HT : ∀ σ, TrS c A cenv scope σ X (trf σ))
    (HI : ∀ σ, ItS c A cenv scope σ X (itE K (evf σ) scope)) (hD : X D) (hloc : ∀ f, scope.names.lookup f ≠ some .cell) {elt : Expr} {gens : List Comprehension} {pos : Pos} :
    ∀ (gs : List Comprehension) (k : Nat) (t iter : Expr) (ifs : List Expr), gens.drop k = ⟨t, iter, ifs, 0⟩ :: gs → ∀ (σ : Sig) (ds out acc : List Mine.D) (it : Value) (fp wr : Addr → Prop) (gi : Option Nat) (St : List Mine.D → Shared → Gh → Prop) (s : Shared) (T : Gh),
      IterS c A X it fp wr gi St → (∀ b, fp b → ¬ EnvA cenv b ∧ ¬ X b) → (∀ b, fp b ∨ EnvA cenv b ∨ X b) → St ds s T → CS c X cenv scope D s T σ acc → compL (compG K evf trf scope elt gs) scope t trf ifs σ ds = some out → acc.length + out.length ≤ big →
      codeAny (model c.prog c.w) A (.compLoop (.ListComp elt gens scope pos) k it (.ref D) cenv) (fun r s' => ∃ fl, r = .ok fl ∧ ∃ T', StepG c (fun b => CW cenv D b ∨ wr b) gi s T s' T' ∧ CS c X cenv scope D s' T' σ (acc ++ out) ∧
        ∀ i, gi = some i → s'.gens[i]? = some .finished) s := by
  intro gs
  induction gs with
  | nil =>
    intro k t iter ifs hg σ ds out acc it fp wr gi St s T I hfp hfp0 hst cs h hl
    have hk : gens[k]? = some ⟨t, iter, ifs, 0⟩ := by
      have := congrArg (fun l => l[0]?) hg; simpa [List.getElem?_drop] using this
    have hk' : gens[k + 1]? = none := by
      have := congrArg (fun l => l[1]?) hg; simpa [List.getElem?_drop] using this
    refine loop_core (K := K) (evf := evf) hA HT hD hloc hk (fun σ' here s T acc Q hf cs hl hQ => ?_) I hfp hfp0 hst cs h hl (gs := [])
    rw [hk']
    simp only [compG, Option.map_eq_some_iff] at hf
    obtain ⟨d, hd, rfl⟩ := hf
    dsimp only
    refine wpAny_bind (wpAny_bind (wpAny_mono ((HE σ').ok elt d s T hd cs.ok cs.al cs.fr) (fun v s₁ ⟨T₁, st, rv⟩ => ?_) fun zz zz e => e))
    have cs₁ := cs.step st
    obtain ⟨vs, hpl, hvs⟩ := cs₁.acc
    have hsz : vs.toArray.size ≤ sizeLine := by
      have := hvs.length
      have h2 : big ≤ sizeLine := big_le
      simp only [List.size_toArray]
      simp only [List.length_singleton] at hl
      omega
    refine wpAny_bind (wpAny_list_append_plain (hsz := hsz) hpl fun h' hpl' hs' => wpAny_pure ?_)
    obtain ⟨n, hn⟩ := hpl
    have st₂ : StepG c (CW cenv D) none s₁ T₁ { s₁ with heap := h' } T₁ := StepG.mut hn (Harm.seq (cs₁.ok.gd.notP hn (by simp)) rfl) (.inr rfl) (fun b o' hb e' => hs'.extBut b o' hb e') (Nat.le_refl _)
    have st₂' : StepG c (fun b => b = D) none s₁ T₁ { s₁ with heap := h' } T₁ := StepG.mut hn (Harm.seq (cs₁.ok.gd.notP hn (by simp)) rfl) rfl (fun b o' hb e' => hs'.extBut b o' hb e') (Nat.le_refl _)
    have soft : Soft s₁.heap (fun b => b = D) X := fun b o w e => .inl (w ▸ hD)
    have hne : ∀ b, EnvA cenv b → ¬ b = D := fun b hb q => by
      obtain ⟨o, e, hn'⟩ := cs₁.fr.notSeq b hb
      rw [q, hn] at e; cases e; exact hn' _ _ rfl
    refine hQ _ T₁ (st.g.trans st₂) ⟨st₂.ok cs₁.ok, st₂'.al cs₁.al (fun b w zz => ?_), cs₁.fr.stepG cs₁.ok.gd st₂' soft hne, vs ++ [v], ?_, (st₂'.rpL cs₁.ok.gd soft hvs).append ?_⟩
    · subst w
      obtain ⟨n', hn'⟩ := hpl'; exact ⟨_, hn'⟩
    · have : (vs ++ [v]).toArray = vs.toArray.push v := by simp
      rw [this]; exact hpl'
    · exact RpL.cons_iff.mpr ⟨st₂'.rp cs₁.ok.gd soft rv, by simp only [RpL]⟩
  | cons g gs ih =>
    intro k t iter ifs hg σ ds out acc it fp wr gi St s T I hfp hfp0 hst cs h hl
    have hk : gens[k]? = some ⟨t, iter, ifs, 0⟩ := by
      have := congrArg (fun l => l[0]?) hg; simpa [List.getElem?_drop] using this
    have hk' : gens[k + 1]? = some g := by
      have := congrArg (fun l => l[1]?) hg; simpa [List.getElem?_drop] using this
    have hg' : gens.drop (k + 1) = g :: gs := by
      have := congrArg List.tail hg; simpa [List.tail_drop] using this
    obtain ⟨t', iter', ifs', as'⟩ := g
    refine loop_core (K := K) (evf := evf) hA HT hD hloc hk (fun σ' here s T acc Q hf cs hl hQ => ?_) I hfp hfp0 hst cs h hl (gs := [])
    rw [hk']
    simp only [compG] at hf
    split at hf
    · rename_i has
      have has' : as' = 0 := by simpa using has
      subst has'
      rw [Option.bind_eq_some_iff] at hf
      obtain ⟨ds', hi, hf⟩ := hf
      dsimp only
      refine wpAny_bind (wpAny_mono ((HI σ').ok iter' ds' s T hi cs.ok cs.al cs.fr) (fun xv s₁ h₁ => ?_) fun zz zz e => e)
      refine wpAny_bind (wpAny_standAt ?_)
      show wpAny _ _ (foldedSetIterable iter' cenv xv >>= fun x => (holding [x] (pyIter x)) >>= _) _ _ s₁
      refine wpAny_bind (wpAny_of_eq (folded_plain ((HI σ').plain _ _ hi) xv) ?_)
      refine wpAny_bind (wpAny_holding (wpAny_mono h₁ (fun it' s₂ ⟨gi', _, T₂, st, hI', hgi'⟩ => ?_) fun zz zz e => e))
      obtain ⟨St', I', hst'⟩ := hI' X (fun b => EnvA cenv b ∨ X b) (fun b h => .inr h) (fun b h => .inl h) (fun b h => .inr (by
        rcases h with h | h
        · obtain ⟨o, e, hn⟩ := cs.fr.notSeq b h
          exact ⟨fun q => by
            obtain ⟨ps, hP, _⟩ := cs.ok.gd.tab
            exact cs.fr.notP cs.ok.gd b h q, o, e, .inr hn⟩
        · obtain ⟨hP, o, e⟩ := cs.al b h
          exact ⟨hP, o, e, .inl h⟩))
      have cs₂ : CS c X cenv scope D s₂ T₂ σ' acc := cs.stepG st (fun b o w => w.elim) (fun b zz w => w) (fun b w => w.elim) hD
      have hfp' : ∀ b, ¬ (EnvA cenv b ∨ X b) → ¬ EnvA cenv b ∧ ¬ X b := fun b hb => ⟨fun h => hb (.inl h), fun h => hb (.inr h)⟩
      have hfp'' : ∀ b, ¬ (EnvA cenv b ∨ X b) ∨ EnvA cenv b ∨ X b := fun b => (Classical.em (EnvA cenv b ∨ X b)).symm
      have inner : ∀ s₃ : Shared, s₃ = s₂ → codeAny (model c.prog c.w) A (.compLoop (.ListComp elt gens scope pos) (k + 1) it' (.ref D) cenv) (fun r s' => ∃ fl, r = .ok fl ∧ ∃ T', StepG c (fun b => CW cenv D b ∨ ¬ (EnvA cenv b ∨ X b) ∧ s.heap.get? b = none) gi' s₂ T₂ s' T' ∧ CS c X cenv scope D s' T' σ' (acc ++ here) ∧
          ∀ i, gi' = some i → s'.gens[i]? = some .finished) s₃ := by
        rintro s₃ rfl
        exact ih (k + 1) t' iter' ifs' hg' σ' ds' here acc it' _ _ gi' St' s₃ T₂ I' hfp' hfp'' hst' cs₂ hf hl
      refine wpAny_bind (wpAny_runOwn (codeAny_mono (compStart_at hk' (inner _ rfl) (I'.self _ _ _ _ hst' (inner _ rfl))) fun r s₃ hr => ?_))
      obtain ⟨fl, rfl, T₃, st₃, cs₃, hfin⟩ := hr
      refine hQ s₃ T₃ ?_ cs₃
      refine StepG.fin (((st.mono fun b w => w.elim).trans st₃).mono (W' := CW cenv D) fun b w => w.imp id (·.2)) fun i hi => ⟨hgi' i hi, hfin i hi⟩
    · cases hf

end Mine
end

section
open PySem PySem.W PyProof.Rows PySem.SeqAt
set_option maxRecDepth 100000
namespace Mine
variable {c : Cx} {A : Around} {s : Shared} {T : Gh} {X : Addr → Prop} {env : Env} {sc : Scope} {σ : Sig}

set_option tactic.hygienic false
theorem closure_go : ∀ (names : List (Str × NameKind)) (cs : List (Str × Addr)), (∀ y ∈ names, y.2 = .free → ∃ a, env.cells.lookup y.1 = some a) → (∀ f a, cs.lookup f = some a → env.cells.lookup f = some a) →
    ∃ cl, (forIn names cs fun x r => if (x.2 == NameKind.free) = true then do let a ← cellOf env x.1; pure (ForInStep.yield ((x.1, a) :: r)) else pure (ForInStep.yield r) : Sem _) = pure cl ∧
      (∀ f a, cl.lookup f = some a → env.cells.lookup f = some a) ∧ (∀ f, (cs.lookup f).isSome → (cl.lookup f).isSome) ∧ (∀ y ∈ names, y.2 = .free → (cl.lookup y.1).isSome)
  | [], cs, hn, hc => ⟨cs, rfl, hc, fun zz h => h, by simp⟩
  | (f, k) :: names, cs, hn, hc => by
    rw [List.forIn_cons]
    dsimp only
    by_cases hk : (k == NameKind.free) = true
    · have hk' : k = .free := by simpa using hk
      obtain ⟨a, ha⟩ := hn (f, k) (by simp) hk'
      have hcell : cellOf env f = pure a := by unfold cellOf; rw [ha]
      obtain ⟨cl, h1, h2, h3, h4⟩ := closure_go names ((f, a) :: cs) (fun y hy => hn y (List.mem_cons_of_mem _ hy)) (fun f' a' e => by
        rw [List.lookup_cons] at e
        cases hb : f' == f with
        | true => rw [hb] at e; cases e; rw [beq_iff_eq] at hb; rw [hb]; exact ha
        | false => rw [hb] at e; exact hc f' a' e)
      refine ⟨cl, ?_, h2, fun f' h => h3 f' ?_, fun y hy hf => ?_⟩
      · rw [if_pos hk, hcell]; exact h1
      · rw [List.lookup_cons]
        cases hb : f' == f with
        | true => rfl
        | false => exact h
      · rcases List.mem_cons.mp hy with rfl | hy
        · exact h3 _ (by simp [List.lookup_cons])
        · exact h4 y hy hf
    · obtain ⟨cl, h1, h2, h3, h4⟩ := closure_go names cs (fun y hy => hn y (List.mem_cons_of_mem _ hy)) hc
      refine ⟨cl, ?_, h2, h3, fun y hy hf => ?_⟩
      · rw [if_neg hk]; exact h1
      · rcases List.mem_cons.mp hy with rfl | hy
        · simp at hf; exact absurd (by simp [hf]) hk
        · exact h4 y hy hf
theorem closure_ok {scope : Scope} (hn : ∀ y ∈ scope.names, y.2 = .free → ∃ a, env.cells.lookup y.1 = some a) :
    ∃ cl, closureFor scope env = pure cl ∧ (∀ f a, cl.lookup f = some a → env.cells.lookup f = some a) ∧ (∀ y ∈ scope.names, y.2 = .free → (cl.lookup y.1).isSome) := by
  obtain ⟨cl, h1, h2, _, h4⟩ := closure_go (env := env) scope.names [] hn (by simp)
  refine ⟨cl, ?_, h2, h4⟩
  simp only [closureFor]
  have h1' := congrArg (· >>= fun r => (pure r : Sem _)) h1
  exact h1'

theorem relabel_other : ∀ {names : List (Str × NameKind)} {x : Str} {k : NameKind}, names.lookup x = some k → k ≠ .free →
    (names.map fun (n, k) => if (k == NameKind.free && env.scope.kind == .function && env.kindOf n == some .cell) then (n, NameKind.cell) else (n, k)).lookup x = some k
  | [], _, _, h, _ => by simp at h
  | (n, k') :: r, x, k, h, hk => by
    have ih := @relabel_other r x k
    show List.lookup x ((if (k' == NameKind.free && env.scope.kind == .function && env.kindOf n == some .cell) = true then (n, NameKind.cell) else (n, k')) :: _) = _
    cases hx : x == n with
    | true =>
      simp only [List.lookup_cons, hx] at h
      cases h
      rw [if_neg (by simp [hk])]
      simp [List.lookup_cons, hx]
    | false =>
      simp only [List.lookup_cons, hx] at h
      by_cases hc : (k' == NameKind.free && env.scope.kind == .function && env.kindOf n == some .cell) = true
      · rw [if_pos hc]; simp only [List.lookup_cons, hx]; exact ih h hk
      · rw [if_neg hc]; simp only [List.lookup_cons, hx]; exact ih h hk
theorem relabel_free : ∀ {names : List (Str × NameKind)} {x : Str}, names.lookup x = some .free →
    (names.map fun (n, k) => if (k == NameKind.free && env.scope.kind == .function && env.kindOf n == some .cell) then (n, NameKind.cell) else (n, k)).lookup x = some .cell ∨
    (names.map fun (n, k) => if (k == NameKind.free && env.scope.kind == .function && env.kindOf n == some .cell) then (n, NameKind.cell) else (n, k)).lookup x = some .free
  | [], _, h => by simp at h
  | (n, k') :: r, x, h => by
    have ih := @relabel_free r x
    simp only [List.map_cons]
    cases hx : x == n with
    | true =>
      simp only [List.lookup_cons, hx] at h
      cases h
      by_cases hc : (NameKind.free == NameKind.free && env.scope.kind == .function && env.kindOf n == some .cell) = true
      · rw [if_pos hc]; simp [List.lookup_cons, hx]
      · rw [if_neg hc]; simp [List.lookup_cons, hx]
    | false =>
      simp only [List.lookup_cons, hx] at h
      by_cases hc : (k' == NameKind.free && env.scope.kind == .function && env.kindOf n == some .cell) = true
      · rw [if_pos hc]; simp only [List.lookup_cons, hx]; exact ih h
      · rw [if_neg hc]; simp only [List.lookup_cons, hx]; exact ih h

structure CompOK (sc scope : Scope) : Prop where
  kind : scope.kind = .function
  cell : ∀ y ∈ scope.names, y.2 ≠ .cell
  loc : ∀ y ∈ scope.names, y.2 = .local → scope.names.lookup y.1 = some .local
  free : ∀ y ∈ scope.names, y.2 = .free → (sc.names.lookup y.1 = some .cell ∨ sc.names.lookup y.1 = some .free) ∧ scope.names.lookup y.1 = some .free
theorem compOk_some {scope : Scope} (h : compOk sc scope = true) : CompOK sc scope := by
  simp only [compOk, Bool.and_eq_true, beq_iff_eq, List.all_eq_true, Bool.or_eq_true, bne_iff_ne, ne_eq] at h
  obtain ⟨h1, h2⟩ := h
  refine ⟨h1, fun y hy => (h2 y hy).1.1.1, fun y hy e => ?_, fun y hy e => ⟨?_, ?_⟩⟩
  · exact (h2 y hy).1.1.2.resolve_left (fun q => q e)
  · exact (h2 y hy).1.2.resolve_left (fun q => q e)
  · exact (h2 y hy).2.resolve_left (fun q => q e)
theorem mem_of_lookup {α β : Type} [BEq α] [LawfulBEq α] : ∀ {l : List (α × β)} {x : α} {b : β}, l.lookup x = some b → (x, b) ∈ l
  | [], _, _, h => by simp at h
  | (y, b') :: r, x, b, h => by
    rw [List.lookup_cons] at h
    cases hb : x == y with
    | true => rw [hb] at h; cases h; rw [beq_iff_eq] at hb; subst hb; simp
    | false => rw [hb] at h; exact List.mem_cons_of_mem _ (mem_of_lookup h)
theorem CompOK.noCell {scope : Scope} (h : CompOK sc scope) (f : Str) : scope.names.lookup f ≠ some .cell := fun e => h.cell _ (mem_of_lookup e) rfl

theorem envOK_comp {scope : Scope} {cl : List (Str × Addr)} {C : Addr} (E : EnvOK env sc) (H : CompOK sc scope) (h3 : 3 < C) (hcl : ∀ f a, cl.lookup f = some a → env.cells.lookup f = some a) (hcl' : ∀ y ∈ scope.names, y.2 = .free → (cl.lookup y.1).isSome) :
    EnvOK (compEnvC scope cl C env) scope := by
  refine ⟨H.kind, E.glob, E.bltn, fun f e => relabel_other e (by simp), fun f e => relabel_other e (by simp), fun f e => ?_, fun f e => absurd e (H.noCell f), h3, fun f f' a e e' => E.apart f f' a (hcl _ _ e) (hcl _ _ e')⟩
  rcases e with e | e
  · exact absurd e (H.noCell f)
  · refine ⟨relabel_free e, ?_⟩
    have := hcl' _ (mem_of_lookup e) rfl
    exact Option.isSome_iff_exists.mp this

set_option tactic.hygienic true
theorem frameOK_comp {scope : Scope} {cl : List (Str × Addr)} {C : Addr} {h : Heap} (F : FrameOK h T env sc σ X) (H : CompOK sc scope) (h3 : 3 < C) (hcl : ∀ f a, cl.lookup f = some a → env.cells.lookup f = some a) (hcl' : ∀ y ∈ scope.names, y.2 = .free → (cl.lookup y.1).isSome)
    (hC : ∃ m, h.Ns C m) : FrameOK h T (compEnvC scope cl C env) scope (freeSig scope σ) X := by
  refine ⟨envOK_comp F.eok H h3 hcl hcl', hC, fun f a e => F.cells f a (hcl _ _ e), fun x d e => ?_⟩
  unfold freeSig at e
  split at e
  · rename_i hf
    obtain ⟨v, hb, hr⟩ := F.has x d e
    refine ⟨v, .inr ⟨relabel_free hf, ?_⟩, hr⟩
    have hk := F.eok.ce x (H.free _ (mem_of_lookup hf) rfl).1
    rcases hb with ⟨q1, _⟩ | ⟨q1, a, q2, q3⟩
    · rcases hk.1 with q | q <;> rw [q] at q1 <;> cases q1
    · obtain ⟨a', ha'⟩ := Option.isSome_iff_exists.mp (hcl' _ (mem_of_lookup hf) rfl)
      have := hcl _ _ ha'
      rw [q2] at this; cases this
      exact ⟨a, ha', q3⟩
  · cases e

set_option tactic.hygienic false
theorem comp_run {K : Know} {evo : Expr → Option D} {evf : Sig → Expr → Option D} {trf : Sig → Expr → Option Bool} (hA : A.handled = none) {scope : Scope} {elt t iter : Expr} {ifs : List Expr} {gs : List Comprehension} {pos ipos : Pos} {ds out : List D}
    {use : Option (Value → Sem Unit)} {Q : Value → Shared → Prop} (hcomp : compOk sc scope = true) (HI0 : ItS c A env sc σ X (itE K evo sc))
    (HE : ∀ cenv σ X, EvS c A cenv scope σ X (evf σ)) (HT : ∀ cenv σ X, TrS c A cenv scope σ X (trf σ)) (HI : ∀ cenv σ X, ItS c A cenv scope σ X (itE K (evf σ) scope))
    (g : Ok c s T) (hX : Al c s.heap X) (F : FrameOK s.heap T env sc σ X) (hit : itE K evo sc iter = some ds) (h : compL (compG K evf trf scope elt gs) scope t trf ifs (freeSig scope σ) ds = some out) (hl : out.length ≤ big)
    (hQ : ∀ C acc s' T', Step c s T s' T' → s.heap.get? C = none → 3 < C → (∃ m, s'.heap.Ns C m) → Rp s'.heap T' X (.list out) acc → compPost (model c.prog c.w) A noE use Q acc C (.ok .next) s') :
    wpAny (model c.prog c.w) A (comprehension (.ListComp elt (⟨t, iter, ifs, 0⟩ :: gs) scope pos) scope env ipos (newList []) false (eval iter env) use) Q noE s := by
  have H := compOk_some hcomp
  obtain ⟨cl, hclos, hcl, hcl'⟩ := closure_ok (env := env) (scope := scope) fun y hy hf => (F.eok.ce y.1 (H.free y hy hf).1).2
  refine wpAny_comprehension_free (e := .ListComp elt (⟨t, iter, ifs, 0⟩ :: gs) scope pos) rfl (fun x => folded_plain (HI0.plain _ _ hit) x) hclos H.kind H.loc ?_
  refine wpAny_mono (HI0.ok iter ds s T hit g hX F) (fun xv s₁ h₁ => wpAny_mono h₁ (fun it s₂ h₂ => ?_) fun zz zz e => e) fun zz zz e => e
  obtain ⟨gi, _, T₂, st, hI, hgi⟩ := h₂
  have g₂ := st.ok g
  refine wpAny_newObj_type (wpAny_newFunctionEnv (fun x hx => H.cell x hx) (by intro y hy; simp at hy) (fun h₁ hns₁ hsb₁ => ?_) H.kind)
  dsimp only at hns₁ hsb₁ ⊢
  generalize hH2 : s₂.heap.push { cls := .type "list", dict := none, data := .seq ([] : List Value).toArray } = H2 at hns₁ hsb₁ ⊢
  have hC : H2.objs.size = s₂.heap.objs.size + 1 := by rw [← hH2, Heap.size_push]
  have hDC : s₂.heap.objs.size ≠ H2.objs.size := by rw [hC]; exact Nat.ne_of_lt (Nat.lt_succ_self _)
  have below : ∀ b, b < s₂.heap.objs.size → b ≠ H2.objs.size ∧ b ≠ s₂.heap.objs.size := fun b hb => ⟨by rw [hC]; exact Nat.ne_of_lt (Nat.lt_succ_of_lt hb), Nat.ne_of_lt hb⟩
  have old : ∀ b o, s₂.heap.get? b = some o → h₁.get? b = some o := fun b o e => hsb₁.extBut b o (below b (Heap.lt_size e)).1 (Heap.get?_push_of_some _ (hH2 ▸ Heap.get?_push_of_some _ e))
  have hacc : h₁.PlainList s₂.heap.objs.size #[] := ⟨_, hsb₁.extBut _ _ hDC (Heap.get?_push_of_some _ (hH2 ▸ Heap.get?_push_size _ rfl))⟩
  have fresh₂ : ∀ a, s₂.heap.objs.size ≤ a → s₂.heap.get? a = none := fun a ha => Heap.get?_none_of_le ha
  have fD := fresh₂ s₂.heap.objs.size (Nat.le_refl _)
  have fC : s₂.heap.get? H2.objs.size = none := fresh₂ _ (by rw [hC]; exact Nat.le_succ _)
  have h3 : (3 : Nat) < s₂.heap.objs.size := by
    obtain ⟨o, es, ep, hg, _⟩ := g₂.gd.g
    exact Heap.lt_size hg
  have back : ∀ a, s₂.heap.get? a = none → a ≠ c.P → s.heap.get? a = none := fun a ha hp => by
    cases e : s.heap.get? a with
    | none => rfl
    | some o => rw [st.keep a o hp (fun w => w) e] at ha; cases ha
  have hDP : s₂.heap.objs.size ≠ c.P := g₂.gd.ne_of_none fD
  have hCP : H2.objs.size ≠ c.P := g₂.gd.ne_of_none fC
  have st₁ : Step c s₂ T₂ { s₂ with heap := h₁, toks := s₂.toks + 0 } T₂ := Step.of_push old (Nat.le_refl _)
  have st₁g : StepG c (fun zz => False) gi s T { s₂ with heap := h₁, toks := s₂.toks + 0 } T₂ := st.trans st₁.g
  have g₁ := st₁.ok g₂
  let X' : Addr → Prop := fun b => X b ∨ b = s₂.heap.objs.size
  have hX' : ∀ b, X' b → X b ∨ s₂.heap.get? b = none := fun b hb => by
    rcases hb with h | h
    · exact .inl h
    · exact .inr (h ▸ fD)
  let U : Addr → Prop := fun b => EnvA (compEnvC scope cl H2.objs.size env) b ∨ X' b
  obtain ⟨St, I, hst⟩ := hI X' U (fun b h => .inr h) hX' fun b hb => by
    rcases hb with (q | ⟨f, q⟩) | q | q
    · exact .inl (by rw [q]; exact fC)
    · have ha : EnvA env b := .inr ⟨f, hcl _ _ q⟩
      obtain ⟨o, e1, hn⟩ := F.notSeq b ha
      exact .inr ⟨F.notP g.gd b ha, o, e1, .inr hn⟩
    · obtain ⟨hP, o, e⟩ := hX b q
      exact .inr ⟨hP, o, e, .inl q⟩
    · exact .inl (by rw [q]; exact fD)
  have F₂ : FrameOK s₂.heap T₂ env sc σ X := F.stepG g.gd st (fun b o w => w.elim) (fun b zz w => w)
  have F₂' : FrameOK s₂.heap T₂ env sc σ X' := ⟨F₂.eok, F₂.ns, F₂.cells, fun x d e => let ⟨v, h1, h2⟩ := F₂.has x d e; ⟨v, h1, h2.more hX'⟩⟩
  have Fc := frameOK_comp (scope := scope) (C := H2.objs.size) (F₂'.step g₂.gd st₁) H (by rw [hC]; exact Nat.lt_succ_of_lt h3) hcl hcl' ⟨_, hns₁⟩
  have hal : Al c h₁ X' := fun b hb => by
    rcases hb with hb | rfl
    · have := (st.al hX fun b w => w.elim) b hb
      obtain ⟨p, o, e⟩ := this
      exact ⟨p, o, old b o e⟩
    · obtain ⟨n, e⟩ := hacc; exact ⟨hDP, _, e⟩
  have cs : CS c X' (compEnvC scope cl H2.objs.size env) scope s₂.heap.objs.size { s₂ with heap := h₁, toks := s₂.toks + 0 } T₂ (freeSig scope σ) [] :=
    ⟨g₁, hal, Fc, [], hacc, by simp only [RpL]⟩
  have hst₁ : St ds { s₂ with heap := h₁, toks := s₂.toks + 0 } T₂ := I.frame _ _ _ _ _ (fun zz => False) hst g₂.gd st₁.g (fun b zz w => w) (fun b o w => w.elim)
  have hfp : ∀ b, ¬ U b → ¬ EnvA (compEnvC scope cl H2.objs.size env) b ∧ ¬ X' b := fun b hb => ⟨fun h => hb (.inl h), fun h => hb (.inr h)⟩
  have hfp' : ∀ b, ¬ U b ∨ EnvA (compEnvC scope cl H2.objs.size env) b ∨ X' b := fun b => (Classical.em (U b)).symm
  have loop : ∀ s₃ : Shared, s₃ = { s₂ with heap := h₁, toks := s₂.toks + 0 } → codeAny (model c.prog c.w) A (.compLoop (.ListComp elt (⟨t, iter, ifs, 0⟩ :: gs) scope pos) 0 it (.ref s₂.heap.objs.size) (compEnvC scope cl H2.objs.size env))
      (compPost (model c.prog c.w) A noE use Q (.ref s₂.heap.objs.size) H2.objs.size) s₃ := by
    rintro s₃ rfl
    refine codeAny_mono (loop_ok (X := X') hA (fun σ => HE _ σ X') (fun σ => HT _ σ X') (fun σ => HI _ σ X') (.inr rfl) H.noCell gs 0 t iter ifs rfl (freeSig scope σ) ds out [] it _ _ gi St _ T₂ I hfp hfp' hst₁ cs h (by simpa using hl)) fun r s₄ hr => ?_
    obtain ⟨fl, rfl, T₄, st₄, cs₄, hfin⟩ := hr
    have tot : Step c s T s₄ T₄ := by
      refine (StepG.fin ((st₁g.mono (W' := fun b => CW (compEnvC scope cl H2.objs.size env) s₂.heap.objs.size b ∨ (¬ U b ∧ s.heap.get? b = none)) fun b w => w.elim).trans st₄) fun i hi => ⟨hgi i hi, hfin i hi⟩).step fun b w => ?_
      rcases w with (rfl | rfl) | w
      · exact back _ fC hCP
      · exact back _ fD hDP
      · exact w.2
    obtain ⟨vs, hpl, hvs⟩ := cs₄.acc
    have := hQ H2.objs.size (.ref s₂.heap.objs.size) s₄ T₄ tot (back _ fC hCP) (by rw [hC]; exact Nat.lt_succ_of_lt h3) cs₄.fr.ns (by
      simp only [Rp]
      refine ⟨hl, _, vs, rfl, fun q => ?_, hpl, RpL.more (X := X') (by simpa using hvs) fun b q => Or.inl (Or.inl q)⟩
      obtain ⟨_, o, e⟩ := hX _ q
      rw [back _ fD hDP] at e; cases e)
    cases use <;> exact this
  exact compStart_at rfl (loop _ rfl) (I.self _ _ _ _ hst₁ (loop _ rfl))

theorem Rp.dict {h h' : Heap} {C : Addr} {d : D} {v : Value} {m : Str → Option Value} (H : Rp h T X d v) (hn : h.Ns C m) (hs : Heap.SameBut C h h') : Rp h' T X d v :=
  H.ext (fun zz zz e => e) fun b o hb e zz hd => ⟨hb, by
    obtain ⟨o', es, ep, e', hd', _⟩ := hn
    have : b ≠ C := by
      rintro rfl; rw [e] at e'; cases e'
      obtain ⟨is, n, q⟩ := hd
      rw [q] at hd'; cases hd'
    rw [hs.2 b this]; exact e⟩

theorem comp_ok {K : Know} {evo : Expr → Option D} {evf : Sig → Expr → Option D} {trf : Sig → Expr → Option Bool} (hA : A.handled = none) {scope : Scope} {elt t iter : Expr} {ifs : List Expr} {gs : List Comprehension} {pos : Pos} {ds out : List D}
    (hcomp : compOk sc scope = true) (HI0 : ItS c A env sc σ X (itE K evo sc))
    (HE : ∀ cenv σ X, EvS c A cenv scope σ X (evf σ)) (HT : ∀ cenv σ X, TrS c A cenv scope σ X (trf σ)) (HI : ∀ cenv σ X, ItS c A cenv scope σ X (itE K (evf σ) scope))
    (g : Ok c s T) (hX : Al c s.heap X) (F : FrameOK s.heap T env sc σ X) (hit : itE K evo sc iter = some ds) (h : compL (compG K evf trf scope elt gs) scope t trf ifs (freeSig scope σ) ds = some out) (hl : out.length ≤ big) :
    wpAny (model c.prog c.w) A (eval (.ListComp elt (⟨t, iter, ifs, 0⟩ :: gs) scope pos) env) (Res c s T X (.list out)) noE s := by
  rw [eval_ListComp]
  refine comp_run (use := none) hA hcomp HI0 HE HT HI g hX F hit h hl fun C acc s' T' st hC h3 hn hr => ?_
  obtain ⟨m, hn⟩ := hn
  refine ⟨m, hn, fun h' hs => ⟨T', ?_, hr.dict hn hs⟩⟩
  obtain ⟨o, es, ep, e, hd, _⟩ := hn
  have := st.inner g hC (notRec_dict e (by rw [hd]; simp)) hs (Nat.le_refl _)
  exact this

end Mine
end

section
open PySem PySem.W PyProof.Rows PySem.SeqAt
set_option maxRecDepth 100000
namespace Mine
variable {c : Cx} {A : Around} {s : Shared} {T : Gh} {X : Addr → Prop} {env : Env} {sc : Scope} {σ : Sig}

structure KnowOK (c : Cx) (K : Know) (k : Nat) : Prop where
  fn : ∀ f ds d, K.Φ f ds = some d → ds ≠ [] ∧ ∃ a, c.mg f = some (.ref a) ∧ (∀ (s : Shared) (T : Gh), Ok c s T → ∃ o fd, s.heap.get? a = some o ∧ o.data = .func fd) ∧ ∀ (A : Around) (s : Shared) (T : Gh) (X : Addr → Prop) (vs : List Value), Room A k → Ok c s T → Al c s.heap X → RpL s.heap T X ds vs →
    wpAny (model c.prog c.w) A (call (.ref a) vs) (Res c s T X d) noE s
  gen : ∀ f ds l, K.Γ f ds = some l → ds ≠ [] ∧ ∃ a, c.mg f = some (.ref a) ∧ (∀ (s : Shared) (T : Gh), Ok c s T → ∃ o fd, s.heap.get? a = some o ∧ o.data = .func fd) ∧ ∀ (A : Around) (s : Shared) (T : Gh) (X : Addr → Prop) (vs : List Value), Room A k → Ok c s T → Al c s.heap X → RpL s.heap T X ds vs →
    wpAny (model c.prog c.w) A (call (.ref a) vs) (fun it s₁ => wpAny (model c.prog c.w) A (pyIter it) (fun it' s₂ => ∃ gi, ItR c A X gi s T l it' s₂) noE s₁) noE s
  gl : ∀ x b, K.gl x = some b → ∃ t, c.mg x = some (.float b t)
  lsc : K.lsc = c.lsc
  lpos : K.lpos = (c.line, c.col)

noncomputable def LamOK (c : Cx) (env : Env) (sc : Scope) : Prop := sc = c.lsc → env.code = .ref c.cT ∧ env.qual ++ "<lambda>" = c.qual

noncomputable def SortOK (c : Cx) (k : Nat) : Prop := ∀ (A : Around) (env : Env) (sc : Scope) (σ : Sig) (X : Addr → Prop) (s : Shared) (T : Gh) (f : Expr → Option D) (e : Expr) (p₁ p₂ p₃ p₄ p₅ p₆ p₇ p₈ pos : Pos) (j : Int) (k' : Nat) (x : Str) (lsc : Scope) (xs : List D) (ks : List (Int × D)),
  Room A k → EvS c A env sc σ X f → env.code = .ref c.cT ∧ env.qual ++ "<lambda>" = c.qual → (p₂.line, p₂.col) = (c.line, c.col) → f e = some (.list xs) → keysD (keyAt j) xs = some ks → (ks.map (·.1)).Nodup → xs.length < 64 → isGlob sc "sorted" = true → lamOk lsc x = true →
  Ok c s T → Al c s.heap X → FrameOK s.heap T env sc σ X →
  wpAny (model c.prog c.w) A (eval (.Call (.Name "sorted" p₁) [e] [⟨some "key", .Lambda ⟨[], [⟨x, none, p₃⟩], none, [], [], none, []⟩ (.UnaryOp .USub (.Subscript (.Name x p₄) (.Constant (.int j) k' p₅) p₆) p₇) lsc p₂, p₈⟩] pos) env)
    (Res c s T X (.list ((srtK ks).map (·.2)))) noE s

theorem plain_any {f : Expr → Option D} (E : EvS c A env sc σ X f) (pos : Pos) : ∀ {es : List Expr} {ds : List D}, seqM f es = some ds → (backTo pos (starEach es env)).any (·.1) = false
  | [], _, _ => rfl
  | e :: es, ds, h => by
    simp only [seqM] at h
    split at h
    · rename_i d hd
      rw [Option.map_eq_some_iff] at h
      obtain ⟨ds', h', rfl⟩ := h
      have ih := plain_any E pos h'
      rw [starEach_plain (E.plain _ _ hd)]
      unfold backTo at ih ⊢
      rw [List.map_cons, List.any_cons, ih]; rfl
    · cases h
theorem args_ok {f : Expr → Option D} (E : EvS c A env sc σ X f) {pos : Pos} {fv : Value} {es : List Expr} {ds : List D} {Q : Args → Shared → Prop} (hs : seqM f es = some ds) (hne : es ≠ []) (g : Ok c s T) (hX : Al c s.heap X) (F : FrameOK s.heap T env sc σ X)
    (h : ∀ vs s' T', Ok c s' T' → Step c s T s' T' → RpL s'.heap T' X ds vs → Q ⟨vs, []⟩ s') : wpAny (model c.prog c.w) A (evalArgs fv true (backTo pos (starEach es env)) []) Q noE s := by
  have hseq := seqM_ok E pos es ds s T hs g hX F
  cases es with
  | nil => exact absurd rfl hne
  | cons e es =>
    simp only [seqM] at hs
    split at hs
    · rename_i d hd
      have he : backTo pos (starEach (e :: es) env) = (false, eval e env) :: backTo pos (starEach es env) := by rw [starEach_plain (E.plain _ _ hd)]; rfl
      rw [he] at hseq ⊢
      exact Calls.evalArgs_plain (wpAny_mono hseq (fun vs s' ⟨T', st, r⟩ => h vs s' T' (st.ok g) st r) fun zz zz e => e)
    · cases hs

set_option tactic.hygienic false
theorem call_ref {f : Expr → Option D} (E : EvS c A env sc σ X f) {x : Str} {p pos : Pos} {es : List Expr} {ds : List D} {a : Addr} {Q : Value → Shared → Prop} (hs : seqM f es = some ds) (hne : es ≠ []) (g : Ok c s T) (hX : Al c s.heap X) (F : FrameOK s.heap T env sc σ X)
    (hg : isGlob sc x = true) (hd : (x == ("__debug__" : Str)) = false) (hm : c.mg x = some (.ref a))
    (ho : ∀ (s : Shared) (T : Gh), Ok c s T → ∃ o fd, s.heap.get? a = some o ∧ o.data = .func fd)
    (h : ∀ vs s' T', Ok c s' T' → Step c s T s' T' → RpL s'.heap T' X ds vs → wpAny (model c.prog c.w) A (call (.ref a) vs) Q noE s') :
    wpAny (model c.prog c.w) A (eval (.Call (.Name x p) es [] pos) env) Q noE s := by
  refine Call_Name rfl (glob_ok g F.eok hg hd hm ?_)
  obtain ⟨o, fd, e1, e2⟩ := ho s T g
  refine Calls.callWith_function (o := o) (fd := fd) (args_ok E hs hne g hX F fun vs s' T' g' st r => ⟨⟨st.keep a o (fun q => ?_) e1, e2⟩, h vs s' T' g' st r⟩)
  obtain ⟨ps, hP, _⟩ := g.gd.tab
  subst q; rw [hP] at e1; cases e1; cases e2
theorem call_blt {f : Expr → Option D} (E : EvS c A env sc σ X f) {x : Str} {p pos : Pos} {es : List Expr} {ds : List D} {v : Value} {Q : Value → Shared → Prop} (hs : seqM f es = some ds) (hne : es ≠ []) (g : Ok c s T) (hX : Al c s.heap X) (F : FrameOK s.heap T env sc σ X)
    (hg : isGlob sc x = true) (hd : (x == ("__debug__" : Str)) = false) (hm : c.mg x = none) (hv : c.mb x = some v) (hk : (∃ id, v = .builtin id) ∨ ∃ id, v = .type id)
    (h : ∀ vs s' T', Ok c s' T' → Step c s T s' T' → RpL s'.heap T' X ds vs → wpAny (model c.prog c.w) A (call v vs) Q noE s') :
    wpAny (model c.prog c.w) A (eval (.Call (.Name x p) es [] pos) env) Q noE s := by
  refine Call_Name rfl (blt_ok g F.eok hg hd hm hv ?_)
  rcases hk with ⟨id, rfl⟩ | ⟨id, rfl⟩
  · exact Calls.callWith_builtin (plain_any E pos hs) (args_ok E hs hne g hX F fun vs s' T' g' st r => h vs s' T' g' st r)
  · exact PyProof.Rows.callWith_type (plain_any E pos hs) (args_ok E hs hne g hX F fun vs s' T' g' st r => h vs s' T' g' st r)
theorem bltV_kind (f : Str) : (∃ id, bltV f = .builtin id) ∨ ∃ id, bltV f = .type id := by
  unfold bltV
  split
  · exact .inl ⟨_, rfl⟩
  split
  · exact .inl ⟨_, rfl⟩
  split
  · exact .inr ⟨_, rfl⟩
  split
  · exact .inl ⟨_, rfl⟩
  · exact .inl ⟨_, rfl⟩

theorem seqM_len {f : Expr → Option D} : ∀ {es : List Expr} {ds : List D}, seqM f es = some ds → ds.length = es.length
  | [], ds, h => by simp only [seqM] at h; cases h; rfl
  | e :: es, ds, h => by
    simp only [seqM] at h
    split at h
    · rw [Option.map_eq_some_iff] at h
      obtain ⟨ds', h', rfl⟩ := h
      simp [seqM_len h']
    · cases h

set_option tactic.hygienic true
theorem it_ok {K : Know} {k : Nat} (B : Blt c) (KO : KnowOK c K k) (hr : Room A k) {f : Expr → Option D} (E : EvS c A env sc σ X f) : ItS c A env sc σ X (itE K f sc) := by
  have hA := hr.handled
  have dflt : ∀ e ds s T, (f e).bind itemsD = some ds → Ok c s T → Al c s.heap X → FrameOK s.heap T env sc σ X →
      wpAny (model c.prog c.w) A (eval e env) (fun xv s₁ => wpAny (model c.prog c.w) A (pyIter xv) (fun it s₂ => ∃ gi, (genCall e = false → gi = none) ∧ ItR c A X gi s T ds it s₂) noE s₁) noE s := fun e ds s T h g hX F => by
    rw [Option.bind_eq_some_iff] at h
    obtain ⟨d, h1, h2⟩ := h
    refine bindR g (E.ok _ _ _ _ h1 g hX F) fun v s' T' g' st r => ?_
    exact wpAny_mono (itr_val hA g' h2 r) (fun it s₂ h => ⟨none, fun zz => rfl, h.pre g st⟩) fun zz zz e => e
  constructor
  · intro e ds h
    unfold itE at h
    split at h
    · rfl
    · rw [Option.bind_eq_some_iff] at h
      obtain ⟨d, h1, _⟩ := h
      exact E.plain _ _ h1
  · intro e ds s T h g hX F
    unfold itE at h
    split at h
    · rename_i fn p args pos
      split at h
      · rename_i hf
        rw [beq_iff_eq] at hf
        subst hf
        split at h
        · rename_i hg
          rw [Option.bind_eq_some_iff] at h
          obtain ⟨as, h1, h2⟩ := h
          have hne : args ≠ [] := by
            rintro rfl
            simp only [seqM] at h1; cases h1; cases h2
          refine call_blt E h1 hne g hX F hg (by decide) (B.no _ (by decide)) B.range (.inr ⟨_, rfl⟩) fun vs s' T' g' st r => ?_
          split at h2
          · rename_i b
            split at h2
            · rename_i hb; cases h2
              simp only [RpL] at r
              obtain ⟨v, _, rfl, h3, rfl⟩ := r
              simp only [Rp] at h3
              obtain ⟨t, rfl⟩ := h3
              refine call_range_1 ?_
              have st2 : Step c s' T' { s' with heap := s'.heap.push { cls := .type "range", data := .fields #[.int 0 s'.toks, .int b t, .int 1 (s'.toks + 1)] }, toks := s'.toks + 1 + 1 } T' :=
                Step.of_push (fun b o e => Heap.get?_push_of_some _ e) (by omega)
              exact wpAny_mono (itr_range (X := X) (T := T') hA (st2.ok g') (IsRange.new s'.heap 0 b 1 _ _ _) (by decide) hb) (fun it s₂ h => ⟨none, fun zz => rfl, h.pre g (st.trans st2)⟩) fun zz zz e => e
            · cases h2
          · rename_i a b
            split at h2
            · rename_i hb; cases h2
              rw [Bool.and_eq_true] at hb
              simp only [RpL] at r
              obtain ⟨v, _, rfl, h3, v', _, rfl, h4, rfl⟩ := r
              simp only [Rp] at h3 h4
              obtain ⟨t, rfl⟩ := h3
              obtain ⟨t', rfl⟩ := h4
              refine call_range_2 ?_
              have st2 : Step c s' T' { s' with heap := s'.heap.push { cls := .type "range", data := .fields #[.int a t, .int b t', .int 1 s'.toks] }, toks := s'.toks + 1 } T' :=
                Step.of_push (fun b o e => Heap.get?_push_of_some _ e) (by omega)
              exact wpAny_mono (itr_range (X := X) (T := T') hA (st2.ok g') (IsRange.new s'.heap a b 1 _ _ _) hb.1 hb.2) (fun it s₂ h => ⟨none, fun zz => rfl, h.pre g (st.trans st2)⟩) fun zz zz e => e
            · cases h2
          · cases h2
        · cases h
      split at h
      · rename_i hf0 hf
        rw [beq_iff_eq] at hf
        subst hf
        split at h
        · rename_i hg
          rw [Option.bind_eq_some_iff] at h
          obtain ⟨as, h1, h2⟩ := h
          obtain ⟨hds, a, hm, hobj, hcall⟩ := KO.gen _ _ _ h2
          by_cases hne : args = []
          · subst hne
            simp only [seqM] at h1; cases h1; exact absurd rfl hds
          · refine call_ref E h1 hne g hX F hg (by decide) hm hobj fun vs s' T' g' st r => ?_
            exact wpAny_mono (hcall A s' T' X vs hr g' (st.al hX) r) (fun it s₁ h => wpAny_mono h (fun it' s₂ ⟨gi, h⟩ => ⟨gi, fun q => absurd ((beq_self_eq_true ("_iter_escaped_chars" : Str)).symm.trans q) (fun q => Bool.noConfusion q), h.pre g st⟩) fun zz zz e => e) fun zz zz e => e
        · cases h
      · exact dflt _ _ _ _ h g hX F
    · exact dflt _ _ _ _ h g hX F

set_option tactic.hygienic false
theorem isTrue_val {e : Expr} {b : Bool} {n : Nat} (he : isTrue e env (eval e env) = (do let v ← eval e env; standAt e.pos; holding [v] (truthy v))) (g : Ok c s T)
    (h : wpAny (model c.prog c.w) A (eval e env) (Res c s T X (.bool b)) noE s) : wpAny (model c.prog c.w) A (isTrue e env (eval e env)) (ResB c s T b) noE s := by
  refine wpAny_isTrue_value (bindR g h fun v s' T' g' st r => ?_) he
  simp only [Rp] at r
  subst r
  exact wpAny_truthy_bool ⟨rfl, T', st⟩

set_option tactic.hygienic true
theorem glF_ok {K : Know} {k : Nat} (KO : KnowOK c K k) {e : Expr} {b : UInt64} {Q : Value → Shared → Prop} (h : glF K sc σ e = some b) (g : Ok c s T) (F : EnvOK env sc) (hQ : ∀ t, Q (.float b t) s) :
    wpAny (model c.prog c.w) A (eval e env) Q noE s := by
  unfold glF at h
  split at h
  · split at h
    · rename_i x p hc
      simp only [Bool.and_eq_true, Bool.not_eq_true'] at hc
      obtain ⟨t, ht⟩ := KO.gl _ _ h
      exact glob_ok g F hc.1.2 hc.2 ht (hQ t)
    · cases h
  · cases h
set_option tactic.hygienic false
theorem glD_ok {op : Operator} {a b : UInt64} {d : D} {t u : Tok} (g : Ok c s T) (h : glD op a b = some d) : wpAny (model c.prog c.w) A (binaryOp op (.float a t) (.float b u)) (Res c s T X d) noE s := by
  unfold glD at h
  split at h
  · cases h; exact AutoFloatOps.add_0 (res_flt g _)
  · cases h; exact AutoFloatOps.sub_0 (res_flt g _)
  · cases h

theorem bin_ok {l r : Expr} {op : Operator} {pos : Pos} {d : D} {Q : Value → Shared → Prop} (h : wpAny (model c.prog c.w) A (eval l env) (fun u s₁ => wpAny (model c.prog c.w) A (eval r env) (fun v s₂ => wpAny (model c.prog c.w) A (binaryOp op u v) Q noE s₂) noE s₁) noE s) :
    wpAny (model c.prog c.w) A (eval (.BinOp l op r pos) env) Q noE s := by
  rw [arm_eval_BinOp]
  exact wpAny_bind (wpAny_mono h (fun u s₁ h₁ => wpAny_bind (wpAny_holding (wpAny_mono h₁ (fun v s₂ h₂ => wpAny_bind (wpAny_standAt (wpAny_operating h₂))) fun zz zz e => e))) fun zz zz e => e)

end Mine
end

section
open PySem PySem.W PyProof.Rows PySem.SeqAt
set_option maxRecDepth 100000
namespace Mine
variable {c : Cx} {A : Around} {s : Shared} {T : Gh} {X : Addr → Prop} {env : Env} {sc : Scope} {σ : Sig}

set_option tactic.hygienic false
theorem ev_sub_form (K : Know) (n : Nat) (sc : Scope) (σ : Sig) (v i : Expr) (p : Pos) : (∃ x px lo hi ps, v = .Name x px ∧ i = .Slice lo hi none ps) ∨ ev K (n + 1) sc σ (.Subscript v i p) = (ev K n sc σ v).bind fun a => (ev K n sc σ i).bind fun b => idxD a b := by
  induction v using Expr.casesOn with
  | Name x px =>
    induction i using Expr.casesOn with
    | Slice lo hi st ps => induction st using Option.casesOn with
      | none => exact .inl ⟨_, _, _, _, _, rfl, rfl⟩
      | some _ => exact .inr rfl
    | _ => exact .inr rfl
  | _ => exact .inr rfl
noncomputable def IsSrt (args : List Expr) (kws : List Keyword) : Prop := ∃ e kn x y p3 p4 p5 p6 p7 p8 j k' lsc lpos, args = [e] ∧ kws = [⟨some kn, .Lambda ⟨[], [⟨x, none, p3⟩], none, [], [], none, []⟩ (.UnaryOp .USub (.Subscript (.Name y p4) (.Constant (.int j) k' p5) p6) p7) lsc lpos, p8⟩]
noncomputable def SrtS (K : Know) (n : Nat) (sc : Scope) (σ : Sig) (fn : Str) (fp p : Pos) (args : List Expr) (kws : List Keyword) : Prop := IsSrt args kws ∨ ev K (n + 1) sc σ (.Call (.Name fn fp) args kws p) = none
theorem srtNo {K : Know} {n : Nat} {sc : Scope} {σ : Sig} {fn : Str} {fp p : Pos} {args : List Expr} {kws : List Keyword} (h : ev K (n + 1) sc σ (.Call (.Name fn fp) args kws p) = none) : SrtS K n sc σ fn fp p args kws := .inr h
theorem srt_view {K : Know} {n : Nat} {sc : Scope} {σ : Sig} {fn : Str} {fp : Pos} {args : List Expr} {kw : Keyword} {kws : List Keyword} {p : Pos} : SrtS K n sc σ fn fp p args (kw :: kws) := by
  obtain ⟨kn, val, p8⟩ := kw
  induction kn using Option.casesOn with
  | none => exact srtNo (Eq.refl none)
  | some kn =>
  induction val using Expr.casesOn with
  | Lambda as body lsc lpos =>
    obtain ⟨po, ag, va, ko, kd, kg, df⟩ := as
    induction po using List.casesOn with
    | cons _ _ => exact srtNo (Eq.refl none)
    | nil =>
    induction ag using List.casesOn with
    | nil => exact srtNo (Eq.refl none)
    | cons ar ags =>
    obtain ⟨x, an, p3⟩ := ar
    induction an using Option.casesOn with
    | some _ => exact srtNo (Eq.refl none)
    | none =>
    induction ags using List.casesOn with
    | cons _ _ => exact srtNo (Eq.refl none)
    | nil =>
    induction va using Option.casesOn with
    | some _ => exact srtNo (Eq.refl none)
    | none =>
    induction ko using List.casesOn with
    | cons _ _ => exact srtNo (Eq.refl none)
    | nil =>
    induction kd using List.casesOn with
    | cons _ _ => exact srtNo (Eq.refl none)
    | nil =>
    induction kg using Option.casesOn with
    | some _ => exact srtNo (Eq.refl none)
    | none =>
    induction df using List.casesOn with
    | cons _ _ => exact srtNo (Eq.refl none)
    | nil =>
    induction body using Expr.casesOn with
    | UnaryOp op sub p7 =>
      induction op using UnaryOp.casesOn with
      | USub =>
        induction sub using Expr.casesOn with
        | Subscript v i p6 =>
          induction v using Expr.casesOn with
          | Name y p4 =>
            induction i using Expr.casesOn with
            | Constant cst k' p5 =>
              induction cst using Const.casesOn with
              | int j =>
                induction kws using List.casesOn with
                | cons _ _ => exact srtNo (Eq.refl none)
                | nil =>
                  induction args using List.casesOn with
                  | nil => exact srtNo (Eq.refl none)
                  | cons e es =>
                  induction es using List.casesOn with
                  | cons _ _ => exact srtNo (Eq.refl none)
                  | nil => exact .inl ⟨_, _, _, _, _, _, _, _, _, _, _, _, _, _, rfl, rfl⟩
              | _ => exact srtNo (Eq.refl none)
            | _ => exact srtNo (Eq.refl none)
          | _ => exact srtNo (Eq.refl none)
        | _ => exact srtNo (Eq.refl none)
      | _ => exact srtNo (Eq.refl none)
    | _ => exact srtNo (Eq.refl none)
  | _ => exact srtNo (Eq.refl none)
theorem srt_form {K : Know} {n : Nat} {sc : Scope} {σ : Sig} {fn : Str} {fp : Pos} {args : List Expr} {kw : Keyword} {kws : List Keyword} {p : Pos} {d : D} (h : ev K (n + 1) sc σ (.Call (.Name fn fp) args (kw :: kws) p) = some d) : IsSrt args (kw :: kws) :=
  Or.elim srt_view id fun q => noneE (q.symm.trans h)
noncomputable def attF (f : Expr → Option D) (o : Expr) (name : Str) (apos p : Pos) : List Expr → List Keyword → Option D
  | [e], [] => if (simpleE o && apos.endLine == p.line) = true then (f o).bind fun a => (f e).bind fun d => methD a name [d] else none
  | _, _ => none
noncomputable def IsGet (o : Expr) (args : List Expr) (kws : List Keyword) : Prop := ∃ k₁ k₂ v₁ v₂ dp a b, o = .Dict [some k₁, some k₂] [v₁, v₂] dp ∧ args = [a, b] ∧ kws = []
noncomputable def AttS (K : Know) (n : Nat) (sc : Scope) (σ : Sig) (name : Str) (apos p : Pos) (o : Expr) (args : List Expr) (kws : List Keyword) : Prop := IsGet o args kws ∨ ev K (n + 1) sc σ (.Call (.Attribute o name apos) args kws p) = attF (ev K n sc σ) o name apos p args kws
theorem attR {K : Know} {n : Nat} {sc : Scope} {σ : Sig} {name : Str} {apos p : Pos} {o : Expr} {args : List Expr} {kws : List Keyword} (h : ev K (n + 1) sc σ (.Call (.Attribute o name apos) args kws p) = attF (ev K n sc σ) o name apos p args kws) : AttS K n sc σ name apos p o args kws := .inr h
theorem attC {K : Know} {n : Nat} {sc : Scope} {σ : Sig} {name : Str} {apos p : Pos} {o : Expr} (h1 : ∀ kw kr, AttS K n sc σ name apos p o [] (kw :: kr)) (h2 : ∀ e kw kr, AttS K n sc σ name apos p o [e] (kw :: kr)) (h3 : ∀ a b es kw kr, AttS K n sc σ name apos p o (a :: b :: es) (kw :: kr))
    (h4 : AttS K n sc σ name apos p o [] []) (h5 : ∀ e, AttS K n sc σ name apos p o [e] []) (h6 : ∀ a b es, AttS K n sc σ name apos p o (a :: b :: es) []) (args : List Expr) (kws : List Keyword) : AttS K n sc σ name apos p o args kws := by
  induction args using List.casesOn with
  | nil => induction kws using List.casesOn with
    | nil => exact h4
    | cons a b => exact h1 a b
  | cons e es => induction es using List.casesOn with
    | nil => induction kws using List.casesOn with
      | nil => exact h5 e
      | cons a b => exact h2 e a b
    | cons e' es => induction kws using List.casesOn with
      | nil => exact h6 e e' es
      | cons a b => exact h3 e e' es a b
theorem att_form {K : Know} {n : Nat} {sc : Scope} {σ : Sig} {name : Str} {apos : Pos} {p : Pos} (o : Expr) : ∀ (args : List Expr) (kws : List Keyword), AttS K n sc σ name apos p o args kws := by
  induction o using Expr.casesOn with
  | Dict ks vs dp =>
    induction ks using List.casesOn with
    | nil => exact attC (fun zz zz => attR (Eq.refl none)) (fun zz zz zz => attR (Eq.refl none)) (fun zz zz zz zz zz => attR (Eq.refl none)) (attR (Eq.refl none)) (fun zz => attR rfl) (fun zz zz zz => attR (Eq.refl none))
    | cons k1 kr =>
    induction k1 using Option.casesOn with
    | none => exact attC (fun zz zz => attR (Eq.refl none)) (fun zz zz zz => attR (Eq.refl none)) (fun zz zz zz zz zz => attR (Eq.refl none)) (attR (Eq.refl none)) (fun zz => attR rfl) (fun zz zz zz => attR (Eq.refl none))
    | some k1 =>
    induction kr using List.casesOn with
    | nil => exact attC (fun zz zz => attR (Eq.refl none)) (fun zz zz zz => attR (Eq.refl none)) (fun zz zz zz zz zz => attR (Eq.refl none)) (attR (Eq.refl none)) (fun zz => attR rfl) (fun zz zz zz => attR (Eq.refl none))
    | cons k2 kr =>
    induction k2 using Option.casesOn with
    | none => exact attC (fun zz zz => attR (Eq.refl none)) (fun zz zz zz => attR (Eq.refl none)) (fun zz zz zz zz zz => attR (Eq.refl none)) (attR (Eq.refl none)) (fun zz => attR rfl) (fun zz zz zz => attR (Eq.refl none))
    | some k2 =>
    induction kr using List.casesOn with
    | cons _ _ => exact attC (fun zz zz => attR (Eq.refl none)) (fun zz zz zz => attR (Eq.refl none)) (fun zz zz zz zz zz => attR (Eq.refl none)) (attR (Eq.refl none)) (fun zz => attR rfl) (fun zz zz zz => attR (Eq.refl none))
    | nil =>
    induction vs using List.casesOn with
    | nil => exact attC (fun zz zz => attR (Eq.refl none)) (fun zz zz zz => attR (Eq.refl none)) (fun zz zz zz zz zz => attR (Eq.refl none)) (attR (Eq.refl none)) (fun zz => attR rfl) (fun zz zz zz => attR (Eq.refl none))
    | cons v1 vr =>
    induction vr using List.casesOn with
    | nil => exact attC (fun zz zz => attR (Eq.refl none)) (fun zz zz zz => attR (Eq.refl none)) (fun zz zz zz zz zz => attR (Eq.refl none)) (attR (Eq.refl none)) (fun zz => attR rfl) (fun zz zz zz => attR (Eq.refl none))
    | cons v2 vr =>
    induction vr using List.casesOn with
    | cons _ _ => exact attC (fun zz zz => attR (Eq.refl none)) (fun zz zz zz => attR (Eq.refl none)) (fun zz zz zz zz zz => attR (Eq.refl none)) (attR (Eq.refl none)) (fun zz => attR rfl) (fun zz zz zz => attR (Eq.refl none))
    | nil =>
    refine attC (fun zz zz => attR (Eq.refl none)) (fun zz zz zz => attR (Eq.refl none)) (fun a b es kw kr => ?_) (attR (Eq.refl none)) (fun zz => attR rfl) (fun a b es => ?_)
    · cases es <;> exact attR (Eq.refl none)
    · induction es using List.casesOn with
      | nil => exact .inl ⟨_, _, _, _, _, _, _, rfl, rfl, rfl⟩
      | cons _ _ => exact attR (Eq.refl none)
  | _ => exact attC (fun zz zz => attR (Eq.refl none)) (fun zz zz zz => attR (Eq.refl none)) (fun zz zz zz zz zz => attR (Eq.refl none)) (attR (Eq.refl none)) (fun zz => attR rfl) (fun zz zz zz => attR (Eq.refl none))
theorem ev_plain {K : Know} {n : Nat} {e : Expr} {d : D} (h : ev K n sc σ e = some d) : plainE e = true := by
  cases n with
  | zero => exact noneE h
  | succ n => cases e <;> first | rfl | exact noneE h
theorem tr_cmp_form (K : Know) (n : Nat) (sc : Scope) (σ : Sig) (l : Expr) (ops : List CmpOp) (cs : List Expr) (p : Pos) : (∃ r, ops = [.Lt] ∧ cs = [r]) ∨ tr K (n + 1) sc σ (.Compare l ops cs p) = (ev K n sc σ l).bind fun a => chainT (ev K n sc σ) a ops cs := by
  cases ops with
  | nil => exact .inr rfl
  | cons op r =>
    cases op with
    | Lt =>
      cases r with
      | cons _ _ => exact .inr rfl
      | nil =>
        cases cs with
        | nil => exact .inr rfl
        | cons c cr => cases cr with
          | nil => exact .inl ⟨_, rfl, rfl⟩
          | cons _ _ => exact .inr rfl
    | _ => exact .inr rfl

set_option tactic.hygienic true
theorem cst_ok {cst : Const} {kd : Nat} {p : Pos} {d : D} (g : Ok c s T) (h : cstD cst = some d) : wpAny (model c.prog c.w) A (eval (.Constant cst kd p) env) (Res c s T X d) noE s := by
  unfold cstD at h
  split at h
  · cases h; exact wpAny_Constant_none (res_val (by simp only [Rp]))
  · cases h; exact wpAny_Constant_bool (res_bool _)
  · cases h; exact wpAny_Constant_int (res_int _)
  · cases h; exact PySem.wpAny_Constant_float (res_flt g _)
  · split at h
    · rename_i hl; cases h
      exact wpAny_Constant_str (res_str hl (Nat.le_succ _))
    · cases h
  · cases h

set_option tactic.hygienic false
theorem RpL.of_get {h : Heap} : ∀ {ds : List D} {vs : List Value}, vs.length = ds.length → (∀ (i : Nat) v d, vs[i]? = some v → ds[i]? = some d → Rp h T X d v) → RpL h T X ds vs
  | [], [], _, _ => by simp only [RpL]
  | [], _ :: _, hl, _ => by simp at hl
  | _ :: _, [], hl, _ => by simp at hl
  | d :: ds, v :: vs, hl, hp => RpL.cons_iff.mpr ⟨hp 0 v d rfl rfl, RpL.of_get (by simpa using hl) fun i v' d' e1 e2 => hp (i + 1) v' d' (by simpa using e1) (by simpa using e2)⟩

theorem listRange_ok {K : Know} {k : Nat} (B : Blt c) (hr : Room A k) {f : Expr → Option D} (E : EvS c A env sc σ X f) {e : Expr} {p₁ p₂ p₃ pos : Pos} {b : Int} (g : Ok c s T) (hX : Al c s.heap X) (F : FrameOK s.heap T env sc σ X)
    (hg : isGlob sc "list" = true) (hg' : isGlob sc "range" = true) (h1 : f e = some (.int b)) (h2 : smallI b = true) (h3 : b ≤ 1000) :
    wpAny (model c.prog c.w) A (eval (.Call (.Name "list" p₁) [.Call (.Name "range" p₂) [e] [] p₃] [] pos) env) (Res c s T X (.list (rngD 0 b))) noE s := by
  refine Call_Name rfl (blt_ok g F.eok hg (by decide) (B.no _ (by decide)) B.list ?_)
  refine PyProof.Rows.callWith_type rfl ?_
  refine Calls.evalArgs_plain (rest := []) (Calls.spliced_cons ?_)
  have hs : seqM f [e] = some [.int b] := by simp only [seqM, h1, Option.map_some]
  refine call_blt E hs (by simp) g hX F hg' (by decide) (B.no _ (by decide)) B.range (.inr ⟨_, rfl⟩) fun vs s' T' g' st r => ?_
  simp only [RpL] at r
  obtain ⟨v, _, rfl, h3', rfl⟩ := r
  simp only [Rp] at h3'
  obtain ⟨t, rfl⟩ := h3'
  refine call_range_1 (Calls.spliced_nil ?_)
  have st2 : Step c s' T' { s' with heap := s'.heap.push { cls := .type "range", data := .fields #[.int 0 s'.toks, .int b t, .int 1 (s'.toks + 1)] }, toks := s'.toks + 1 + 1 } T' :=
    Step.of_push (fun b o e => Heap.get?_push_of_some _ e) (by omega)
  rw [smallI_iff] at h2
  have hn : Builtin.Range.rangeSize 0 b 1 = (b.toNat : Int) := by
    rw [rangeSize_one]; split <;> omega
  refine leaf (call_list_range (n := b.toNat) hr.handled (IsRange.new s'.heap 0 b 1 _ _ _) (small_one (by omega) (by omega) (by omega) (by omega)) hn (by omega) fun h' tk acc c' hk hget hit htk => ?_)
  have st3 : Step c _ T' { s' with heap := h', toks := tk } T' := Step.of_push (s := { s' with heap := s'.heap.push { cls := .type "range", data := .fields #[.int 0 s'.toks, .int b t, .int 1 (s'.toks + 1)] }, toks := s'.toks + 1 + 1 }) hk htk
  have stt := (st.trans st2).trans st3
  refine ⟨T', stt, ?_⟩
  simp only [Rp]
  have hal := (st.trans st2).al hX
  refine ⟨by unfold rngD big; simp; omega, _, acc.toList, rfl, hal.lt, ⟨c', by simpa using hget⟩, ?_⟩
  refine RpL.of_get (by have := hit.1; simp [rngD, this]) fun i v d e1 e2 => ?_
  obtain ⟨t', rfl⟩ := hit.2 i v (by simpa using e1)
  simp only [rngD, List.getElem?_map, Option.map_eq_some_iff] at e2
  obtain ⟨j, h1, rfl⟩ := e2
  have : j = i := by
    obtain ⟨h2, h3⟩ := List.getElem?_eq_some_iff.mp h1
    simpa using h3.symm
  subst this
  simp only [Rp]
  exact ⟨t', by simp⟩

noncomputable def lsNone (args : List Expr) : Prop := ∀ (α : Type) (f : Str → Expr → α) (z : α), (match args with | [.Call (.Name f₂ _) [e] [] _] => f f₂ e | _ => z) = z
noncomputable def ListS (args : List Expr) : Prop := (∃ f₂ p₂ e p₃, args = [.Call (.Name f₂ p₂) [e] [] p₃]) ∨ lsNone args
theorem lsNo {args : List Expr} (h : lsNone args) : ListS args := .inr h
theorem list_view (args : List Expr) : ListS args := by
  induction args using List.casesOn with
  | nil => exact lsNo fun α zz f => @rfl α f
  | cons a r =>
    induction a using Expr.casesOn with
    | Call fn as kws p =>
      induction fn using Expr.casesOn with
      | Name f₂ p₂ =>
        induction as using List.casesOn with
        | nil => exact lsNo fun α zz f => @rfl α f
        | cons e es =>
          induction es using List.casesOn with
          | cons _ _ => exact lsNo fun α zz f => @rfl α f
          | nil =>
            induction kws using List.casesOn with
            | cons _ _ => exact lsNo fun α zz f => @rfl α f
            | nil =>
              induction r using List.casesOn with
              | cons _ _ => exact lsNo fun α zz f => @rfl α f
              | nil => exact .inl ⟨_, _, _, _, rfl⟩
      | _ => exact lsNo fun α zz f => @rfl α f
    | _ => exact lsNo fun α zz f => @rfl α f
set_option tactic.hygienic true
theorem call_sound {K : Know} {k n : Nat} (B : Blt c) (KO : KnowOK c K k) (hr : Room A k) (E : EvS c A env sc σ X (ev K n sc σ)) {f : Str} {args : List Expr} {p pos : Pos} {d : D} (h : ev K (n + 1) sc σ (.Call (.Name f p) args [] pos) = some d) (g : Ok c s T) (hX : Al c s.heap X) (F : FrameOK s.heap T env sc σ X) :
    wpAny (model c.prog c.w) A (eval (.Call (.Name f p) args [] pos) env) (Res c s T X d) noE s := by
  replace h : (if (f == "__debug__" || (σ f).isSome || !(isGlob sc f)) = true then none
        else if (f == "list") = true then (match args with
          | [.Call (.Name f₂ _) [e] [] _] => if f₂ == "range" && isGlob sc f₂ then (ev K n sc σ e).bind fun d => (match d with
              | .int b => if smallI b && decide (b ≤ 1000) then some (.list (rngD 0 b)) else none
              | _ => none) else none
          | _ => none)
        else (seqM (ev K n sc σ) args).bind fun ds => if bltNames.contains f then bltD f ds else K.Φ f ds) = some d := h
  split at h
  · exact noneE h
  · rename_i hc
    simp only [Bool.or_eq_true, not_or, Bool.not_eq_true, Bool.not_eq_true'] at hc
    obtain ⟨⟨hd, hσ⟩, hg⟩ := hc
    have hg' : isGlob sc f = true := by simpa using hg
    split at h
    · rename_i hf
      rw [beq_iff_eq] at hf
      subst hf
      rcases list_view args with ⟨f₂, p₂, e, p₃, rfl⟩ | hn
      · replace h : (if (f₂ == "range" && isGlob sc f₂) = true then (ev K n sc σ e).bind fun d => (match d with
              | .int b => if (smallI b && decide (b ≤ 1000)) = true then some (.list (rngD 0 b)) else none
              | _ => none) else none) = some d := h
        split at h
        · rename_i hc
          rw [Bool.and_eq_true, beq_iff_eq] at hc
          obtain ⟨rfl, hg2⟩ := hc
          rw [Option.bind_eq_some_iff] at h
          obtain ⟨a, h1, h2⟩ := h
          cases a with
          | int b =>
            dsimp only at h2
            split at h2
            · rename_i hb
              rw [Bool.and_eq_true, decide_eq_true_eq] at hb
              cases h2
              exact listRange_ok (K := K) B hr E g hX F hg' hg2 h1 hb.1 hb.2
            · exact noneE h2
          | _ => exact noneE h2
        · exact noneE h
      · exact noneE ((hn _ _ _).symm.trans h)
    · rw [Option.bind_eq_some_iff] at h
      obtain ⟨ds, h1, h2⟩ := h
      split at h2
      · rename_i hf
        have hmem : f ∈ bltNames := by simpa using hf
        have hne : args ≠ [] := by
          rintro rfl
          simp only [seqM] at h1; cases h1
          unfold bltD at h2
          simp at h2
        refine call_blt E h1 hne g hX F hg' hd (B.no f (List.mem_append_left _ hmem)) (B.val f hmem) (bltV_kind f) fun vs s' T' g' st r => ?_
        exact wpAny_mono (blt_call g' hr (st.al hX) h2 r) (fun zz zz q => st.res q) fun zz zz e => e
      · obtain ⟨hds, a, hm, hobj, hcall⟩ := KO.fn _ _ _ h2
        have hne : args ≠ [] := by
          rintro rfl
          simp only [seqM] at h1; cases h1; exact hds rfl
        refine call_ref E h1 hne g hX F hg' hd hm hobj fun vs s' T' g' st r => ?_
        exact wpAny_mono (hcall A s' T' X vs hr g' (st.al hX) r) (fun zz zz q => st.res q) fun zz zz e => e
set_option maxHeartbeats 4000000 in
theorem ev_tr {K : Know} {k : Nat} (B : Blt c) (KO : KnowOK c K k) (SO : SortOK c k) : ∀ n, (∀ A env sc σ X, Room A k → LamOK c env sc → EvS c A env sc σ X (ev K n sc σ)) ∧ (∀ A env sc σ X, Room A k → LamOK c env sc → TrS c A env sc σ X (tr K n sc σ)) := by
  intro n
  induction n with
  | zero =>
    exact ⟨fun A env sc σ X hr hl => ⟨fun e d h => ev_plain h, fun e d s T h => noneE h⟩, fun A env sc σ X hr hl e b s T h => noneE h⟩
  | succ n ih =>
    obtain ⟨ihE, ihT⟩ := ih
    constructor
    · intro A env sc σ X hr hl
      have E := ihE A env sc σ X hr hl
      have TR := ihT A env sc σ X hr hl
      refine ⟨fun e d h => ev_plain h, fun e d s T h g hX F => ?_⟩
      cases e with
      | Constant cst kd p => exact cst_ok g h
      | Name x p =>
        replace h : (if (x == "__debug__" || x == "__classdict__") = true then none else σ x) = some d := h
        split at h
        · exact noneE h
        · rename_i hd
          exact name_ok g F h (by simpa using hd)
      | BinOp l op r p =>
        replace h : (match glF K sc σ l, glF K sc σ r with
          | some a, none => (ev K n sc σ r).bind fun b => match b with | .flt y => glD op a y | _ => none
          | none, some b => (ev K n sc σ l).bind fun a => match a with | .flt x => glD op x b | _ => none
          | none, none => (ev K n sc σ l).bind fun a => (ev K n sc σ r).bind fun b => binD op a b
          | some _, some _ => none) = some d := h
        cases ha : glF K sc σ l with
        | some a =>
          cases hb : glF K sc σ r with
          | some b => rw [ha, hb] at h; exact noneE h
          | none =>
            rw [ha, hb] at h
            obtain ⟨b, h1, h2⟩ := Option.bind_eq_some_iff.mp h
            cases b with
            | flt y =>
              refine bin_ok (d := d) (glF_ok KO ha g F.eok fun t => ?_)
              refine bindR g (E.ok _ _ _ _ h1 g hX F) fun v s' T' g' st r => ?_
              simp only [Rp] at r
              obtain ⟨t', rfl, _⟩ := r
              exact wpAny_mono (glD_ok g' h2) (fun zz zz q => st.res q) fun zz zz e => e
            | _ => exact noneE h2
        | none =>
          cases hb : glF K sc σ r with
          | some b =>
            rw [ha, hb] at h
            obtain ⟨b', h1, h2⟩ := Option.bind_eq_some_iff.mp h
            cases b' with
            | flt x =>
              refine bin_ok (d := d) (bindR g (E.ok _ _ _ _ h1 g hX F) fun v s' T' g' st r => ?_)
              simp only [Rp] at r
              obtain ⟨t', rfl, _⟩ := r
              exact glF_ok KO hb g' F.eok fun t => wpAny_mono (glD_ok g' h2) (fun zz zz q => st.res q) fun zz zz e => e
            | _ => exact noneE h2
          | none =>
            rw [ha, hb] at h
            obtain ⟨a, h1, h2⟩ := Option.bind_eq_some_iff.mp h
            obtain ⟨b, h2, h3⟩ := Option.bind_eq_some_iff.mp h2
            refine bin_ok (d := d) (bindR g (E.ok _ _ _ _ h1 g hX F) fun u s₁ T₁ g₁ st₁ r₁ => bindR g₁ (E.ok _ _ _ _ h2 g₁ (st₁.al hX) (F.step g.gd st₁)) fun v s₂ T₂ g₂ st₂ r₂ => ?_)
            exact wpAny_mono (binD_sound g₂ ((st₁.trans st₂).al hX) h3 (st₂.rp g₁.gd r₁) r₂) (fun zz zz q => (st₁.trans st₂).res q) fun zz zz e => e
      | UnaryOp op x p =>
        cases op with
        | USub =>
          obtain ⟨a, h1, h2⟩ := Option.bind_eq_some_iff.mp (show ((ev K n sc σ x).bind fun a => match a with | .int i => some (.int (-i)) | _ => none) = some d from h)
          cases a with
          | int i =>
            cases h2
            refine wpAny_UnaryOp (bindR g (E.ok _ _ _ _ h1 g hX F) fun v s' T' g' st r => ?_)
            simp only [Rp] at r
            obtain ⟨t, rfl⟩ := r
            exact PyProof.Rows.neg_int (st.res (res_int _))
          | _ => exact noneE h2
        | _ => exact noneE h
      | Compare l ops cs p =>
        obtain ⟨a, h1, h2⟩ := Option.bind_eq_some_iff.mp (show ((ev K n sc σ l).bind fun a => (chainT (ev K n sc σ) a ops cs).map .bool) = some d from h)
        rw [Option.map_eq_some_iff] at h2
        obtain ⟨b, h2, rfl⟩ := h2
        rw [arm_eval_Compare]
        refine wpAny_bind (bindR g (E.ok _ _ _ _ h1 g hX F) fun v s' T' g' st r => ?_)
        exact wpAny_mono (chain_ok E hr _ _ _ _ _ _ _ _ h2 g' (st.al hX) (F.step g.gd st) r).1 (fun zz zz q => st.res q) fun zz zz e => e
      | IfExp t a b p =>
        obtain ⟨c', h1, h2⟩ := Option.bind_eq_some_iff.mp (show ((tr K n sc σ t).bind fun c => if c then ev K n sc σ a else ev K n sc σ b) = some d from h)
        refine wpAny_IfExp (wpAny_mono (TR _ _ _ _ h1 g hX F) (fun b' s' ⟨e, T', st⟩ => ?_) fun zz zz e => e)
        subst e
        cases b' with
        | true => exact wpAny_mono (E.ok _ _ _ _ h2 (st.ok g) (st.al hX) (F.step g.gd st)) (fun zz zz q => st.res q) fun zz zz e => e
        | false => exact wpAny_mono (E.ok _ _ _ _ h2 (st.ok g) (st.al hX) (F.step g.gd st)) (fun zz zz q => st.res q) fun zz zz e => e
      | List es p =>
        obtain ⟨ds, h1, h2⟩ := Option.bind_eq_some_iff.mp (show (seqM (ev K n sc σ) es).bind listD = some d from h)
        obtain ⟨hl', rfl⟩ := listD_some h2
        refine wpAny_List (wpAny_mono (seqM_ok E _ _ _ _ _ h1 g hX F) (fun vs s' ⟨T', st, r⟩ => ⟨?_, st.res ?_⟩) fun zz zz e => e)
        · rw [r.length]; exact Nat.le_trans hl' big_le
        · exact rp_newList (st.ok g).gd (st.al hX) r hl'
      | Tuple es kd p =>
        obtain ⟨ds, h1, h2⟩ := Option.bind_eq_some_iff.mp (show (seqM (ev K n sc σ) es).bind tupD = some d from h)
        obtain ⟨hl', rfl⟩ := tupD_some h2
        refine wpAny_Tuple (wpAny_mono (seqM_ok E _ _ _ _ _ h1 g hX F) (fun vs s' ⟨T', st, r⟩ => ⟨?_, st.res ?_⟩) fun zz zz e => e)
        · rw [r.length]; exact Nat.le_trans hl' big_le
        · exact rp_newTup (st.ok g).gd (st.al hX) r hl'
      | Subscript v i p =>
        rcases ev_sub_form K n sc σ v i p with ⟨x, px, lo, hi, ps, rfl, rfl⟩ | e
        · obtain ⟨a, h1, h2⟩ := Option.bind_eq_some_iff.mp (show ((ev K n sc σ (.Name x px)).bind fun a => (bndD' (ev K n sc σ) lo).bind fun l => (bndD' (ev K n sc σ) hi).bind fun h => sliceD a l h) = some d from h)
          obtain ⟨l, h2, h3⟩ := Option.bind_eq_some_iff.mp h2
          obtain ⟨u, h3, h4⟩ := Option.bind_eq_some_iff.mp h3
          exact slice_ok E g hX F h1 h2 h3 h4
        · rw [e] at h
          obtain ⟨a, h1, h2⟩ := Option.bind_eq_some_iff.mp h
          obtain ⟨b, h2, h3⟩ := Option.bind_eq_some_iff.mp h2
          refine Subscript_ (bindR g (E.ok _ _ _ _ h1 g hX F) fun u s₁ T₁ g₁ st₁ r₁ => bindR g₁ (E.ok _ _ _ _ h2 g₁ (st₁.al hX) (F.step g.gd st₁)) fun w s₂ T₂ g₂ st₂ r₂ => ?_)
          have hsl : notSl i = true := by
            cases i <;> first | rfl | (cases n <;> exact noneE h2)
          exact wpAny_mono (idx_ok g₂ hsl h3 (st₂.rp g₁.gd r₁) r₂) (fun zz zz q => (st₁.trans st₂).res q) fun zz zz e => e
      | ListComp elt gens scope p =>
        replace h : (if (compOk sc scope && decide (scope ≠ K.lsc)) = true then (match gens with
          | ⟨t, it, ifs, as⟩ :: gs => if (as == 0) = true then (itE K (ev K n sc σ) sc it).bind fun ds =>
              (compL (compG K (ev K n scope) (tr K n scope) scope elt gs) scope t (tr K n scope) ifs (freeSig scope σ) ds).bind listD else none
          | [] => none) else none) = some d := h
        split at h
        · rename_i hc
          rw [Bool.and_eq_true, decide_eq_true_eq] at hc
          have hlam : ∀ cenv, LamOK c cenv scope := fun cenv e => absurd (e.trans KO.lsc.symm) hc.2
          cases gens with
          | nil => exact noneE h
          | cons gn gs =>
            obtain ⟨t, it, ifs, as⟩ := gn
            dsimp only at h
            split at h
            · rename_i has
              have has' : as = 0 := beq_iff_eq.mp has
              subst has'
              obtain ⟨ds, h1, h2⟩ := Option.bind_eq_some_iff.mp h
              obtain ⟨out, h5, h3⟩ := Option.bind_eq_some_iff.mp h2
              obtain ⟨hl', rfl⟩ := listD_some h3
              exact comp_ok hr.handled hc.1 (it_ok B KO hr E) (fun cenv σ X => ihE A cenv scope σ X hr (hlam cenv)) (fun cenv σ X => ihT A cenv scope σ X hr (hlam cenv))
                (fun cenv σ X => it_ok B KO hr (ihE A cenv scope σ X hr (hlam cenv))) g hX F h1 h5 hl'
            · exact noneE h
        · exact noneE h
      | Call f args kws pos =>
        cases f with
        | Name f p =>
          cases kws with
          | nil => exact call_sound B KO hr E h g hX F
          | cons kw kws =>
            obtain ⟨e, kn, x, y, p3, p4, p5, p6, p7, p8, j, k', lsc, lpos, rfl, hk⟩ := srt_form h
            rw [hk] at h ⊢
            replace h : (if (f == "sorted" && kn == "key" && isGlob sc f && decide (sc = K.lsc) && x == y && lamOk lsc x && decide ((lpos.line, lpos.col) = K.lpos)) = true then
              (ev K n sc σ e).bind fun a => match a with
                | .list xs => (keysD (keyAt j) xs).bind fun ks =>
                    if (decide (ks.map (·.1)).Nodup && decide (xs.length < 64)) = true then some (D.list ((srtK ks).map (·.2))) else none
                | _ => none
              else none) = some d := h
            split at h
            · rename_i hc
              simp only [Bool.and_eq_true, beq_iff_eq, decide_eq_true_eq] at hc
              obtain ⟨⟨⟨⟨⟨⟨rfl, rfl⟩, hg'⟩, hsc⟩, rfl⟩, hlam⟩, hpos⟩ := hc
              obtain ⟨a, h1, h2⟩ := Option.bind_eq_some_iff.mp h
              cases a with
              | list xs =>
                obtain ⟨ks, h5, h3⟩ := Option.bind_eq_some_iff.mp h2
                split at h3
                · rename_i hq
                  rw [Bool.and_eq_true, decide_eq_true_eq, decide_eq_true_eq] at hq
                  cases h3
                  exact SO A env sc σ X s T _ _ _ _ _ _ _ _ _ _ _ _ _ _ _ _ ks hr E (hl (hsc.trans KO.lsc)) (hpos.trans KO.lpos) h1 h5 hq.1 hq.2 hg' hlam g hX F
                · exact noneE h3
              | _ => exact noneE h2
            · exact noneE h
        | Attribute o name apos =>
          rcases att_form (K := K) (n := n) (sc := sc) (σ := σ) (name := name) (apos := apos) (p := pos) o args kws with ⟨k₁, k₂, v₁, v₂, dp, a, b, rfl, rfl, rfl⟩ | e
          · replace h : (if (name == "get" && apos.endLine == pos.line) = true then
              (ev K n sc σ k₁).bind fun k₁ => (ev K n sc σ v₁).bind fun v₁ => (ev K n sc σ k₂).bind fun k₂ => (ev K n sc σ v₂).bind fun v₂ =>
              (ev K n sc σ a).bind fun a => (ev K n sc σ b).bind fun b => match k₁, k₂, a with
                | .int i, .int j, .int q => if (i == j) = true then none else if (q == i) = true then some v₁ else if (q == j) = true then some v₂ else some b
                | _, _, _ => none
              else none) = some d := h
            split at h
            · rename_i hc
              rw [Bool.and_eq_true, beq_iff_eq] at hc
              obtain ⟨rfl, hl'⟩ := hc
              obtain ⟨k₁, h1, h⟩ := Option.bind_eq_some_iff.mp h
              obtain ⟨v₁, h2, h⟩ := Option.bind_eq_some_iff.mp h
              obtain ⟨k₂, h3, h⟩ := Option.bind_eq_some_iff.mp h
              obtain ⟨v₂, h4, h⟩ := Option.bind_eq_some_iff.mp h
              obtain ⟨a, h5, h⟩ := Option.bind_eq_some_iff.mp h
              obtain ⟨b, h6, h⟩ := Option.bind_eq_some_iff.mp h
              cases k₁ with
              | int i =>
                cases k₂ with
                | int j =>
                  cases a with
                  | int q =>
                    dsimp only at h
                    split at h
                    · exact noneE h
                    · rename_i hij
                      exact dict_ok E g hX F hl' h1 h2 h3 h4 h5 h6 (by simpa using hij) h
                  | _ => exact noneE h
                | _ => exact noneE h
              | _ => exact noneE h
            · exact noneE h
          · rw [e] at h
            cases args with
            | nil => exact noneE h
            | cons a as =>
            cases as with
            | cons _ _ => exact noneE h
            | nil =>
            cases kws with
            | cons _ _ => exact noneE h
            | nil =>
            replace h : (if (simpleE o && apos.endLine == pos.line) = true then (ev K n sc σ o).bind fun a' => (ev K n sc σ a).bind fun d => methD a' name [d] else none) = some d := h
            split at h
            · rename_i hc
              rw [Bool.and_eq_true] at hc
              obtain ⟨a, h1, h⟩ := Option.bind_eq_some_iff.mp h
              obtain ⟨b, h2, h⟩ := Option.bind_eq_some_iff.mp h
              exact meth_ok E hr g hX F hc.1 hc.2 h1 h2 h
            · exact noneE h
        | _ => exact noneE h
      | _ => exact noneE h
    · intro A env sc σ X hr hl e b s T h g hX F
      have E := ihE A env sc σ X hr hl
      have TR := ihT A env sc σ X hr hl
      have cmp : ∀ l ops cs p s, Ok c s T → Al c s.heap X → FrameOK s.heap T env sc σ X → ((ev K n sc σ l).bind fun a => chainT (ev K n sc σ) a ops cs) = some b → wpAny (model c.prog c.w) A (isTrue (.Compare l ops cs p) env (eval (.Compare l ops cs p) env)) (ResB c s T b) noE s := fun l ops cs p s g hX F h => by
        obtain ⟨a, h1, h2⟩ := Option.bind_eq_some_iff.mp h
        rw [arm_isTrue_Compare]
        refine wpAny_bind (bindR g (E.ok _ _ _ _ h1 g hX F) fun v s' T' g' st r => ?_)
        exact wpAny_mono (chain_ok E hr _ _ _ _ _ _ _ _ h2 g' (st.al hX) (F.step g.gd st) r).2 (fun zz zz q => st.resB q) fun zz zz e => e
      have val : ∀ d : D, ((match d with | .bool b => some b | _ => none) = some b) → d = .bool b := fun d h => by
        cases d with
        | bool b => cases h; rfl
        | _ => exact noneE h
      cases e with
      | Compare l ops cs p =>
        rcases tr_cmp_form K n sc σ l ops cs p with ⟨r', rfl, rfl⟩ | e
        · replace h : (match glF K sc σ r' with
            | some b => (ev K n sc σ l).bind fun a => match a with | .flt x => some (Float64.cmp x b == some Ordering.lt) | _ => none
            | none => (ev K n sc σ l).bind fun a => chainT (ev K n sc σ) a [.Lt] [r']) = some b := h
          cases hb : glF K sc σ r' with
          | none => rw [hb] at h; exact cmp _ _ _ _ _ g hX F h
          | some b' =>
            rw [hb] at h
            obtain ⟨a, h1, h2⟩ := Option.bind_eq_some_iff.mp h
            cases a with
            | flt x =>
              cases h2
              rw [arm_isTrue_Compare]
              refine wpAny_bind (bindR g (E.ok _ _ _ _ h1 g hX F) fun v s' T' g' st r => ?_)
              simp only [Rp] at r
              obtain ⟨t, rfl, _⟩ := r
              have hm : ∀ r : Expr, plainE r = true → markedEach [CmpOp.Lt] [r] (evalEach [r] env) = [eval r env] := fun r hp => by
                show [markedBehindIn .Lt r (eval r env)] = _
                rw [markedBehindIn_of_false (marks_plain hp)]
              rw [hm _ (by unfold glF at hb; split at hb; rfl; cases hb)]
              rw [tc1]
              refine wpAny_bind (wpAny_holding (glF_ok KO hb g' F.eok fun t' => wpAny_bind (wpAny_standAt (wpAny_bind (wpAny_operating ?_)))))
              exact AutoFloatOps.lt_0 (wpAny_holding (wpAny_truthy_bool ⟨rfl, T', st⟩))
            | _ => exact noneE h2
        · rw [e] at h; exact cmp _ _ _ _ _ g hX F h
      | BoolOp op vs p => exact wpAny_isTrue_BoolOp (allT_ok TR _ _ _ _ _ h g hX F)
      | Name x p =>
        obtain ⟨a, h1, h2⟩ := Option.bind_eq_some_iff.mp (show ((ev K n sc σ (.Name x p)).bind fun d => match d with | .bool b => some b | _ => none) = some b from h)
        rw [val a h2] at h1
        exact isTrue_val (n := 0) rfl g (E.ok _ _ _ _ h1 g hX F)
      | Call f args kws p =>
        obtain ⟨a, h1, h2⟩ := Option.bind_eq_some_iff.mp (show ((ev K n sc σ (.Call f args kws p)).bind fun d => match d with | .bool b => some b | _ => none) = some b from h)
        rw [val a h2] at h1
        exact isTrue_val (n := 0) rfl g (E.ok _ _ _ _ h1 g hX F)
      | _ => exact noneE h

end Mine
end

section
open PySem PySem.W PyProof.Rows PySem.SeqAt
set_option maxRecDepth 100000
namespace Mine
variable {c : Cx} {A : Around} {s : Shared} {T : Gh} {X : Addr → Prop} {env : Env} {sc : Scope} {σ : Sig}

set_option tactic.hygienic false
theorem for_core {target : Expr} {body : List Stmt} {it : Value} {fp wr : Addr → Prop} {gi : Option Nat} {St : List D → Shared → Gh → Prop} {R : Result → Shared → Prop} (I : IterS c A X it fp wr gi St) (J : List D → Shared → Gh → Prop)
    (hJ : ∀ ds s T, J ds s T → Ok c s T ∧ Al c s.heap X ∧ ∀ b, fp b ∨ ∃ o, s.heap.get? b = some o)
    (Hnext : ∀ d ds s T s' T' v w, J (d :: ds) s T → (∀ b, w b → wr b) → Soft s.heap w X → StepG c w gi s T s' T' → St ds s' T' → Rp s'.heap T' X d v →
      wpAny (model c.prog c.w) A (assign target env v) (fun zz s₂ => wpAny (model c.prog c.w) A (execs body env) (fun f s₃ => match f with
        | .next | .cont => ∃ T₃, St ds s₃ T₃ ∧ J ds s₃ T₃
        | .brk => False
        | .ret v => R (.ok (.ret v)) s₃) noE s₂) noE s')
    (Hstop : ∀ s T s' T' w, J [] s T → (∀ b, w b → wr b) → Soft s.heap w X → StepG c w gi s T s' T' → (∀ i, gi = some i → s'.gens[i]? = some .finished) → R (.ok .next) s')
    {ds : List D} (hst : St ds s T) (hj : J ds s T) : codeAny (model c.prog c.w) A (.forLoop target it body [] env) R s := by
  refine codeAny_forLoop_any (fun n s' => ∃ T' ds', n = ds'.length ∧ St ds' s' T' ∧ J ds' s' T') (fun n s₀ hI => ?_) ds.length ⟨T, ds, rfl, hst, hj⟩
  obtain ⟨T₀, ds₀, rfl, hst₀, hj₀⟩ := hI
  obtain ⟨g₀, al₀, lv₀⟩ := hJ _ _ _ hj₀
  cases ds₀ with
  | nil =>
    refine wpAny_mono (I.stop s₀ T₀ hst₀ g₀ lv₀) (fun r s₁ ⟨T₁, w, hr, hw, hs, st₁, hfin⟩ => ?_) fun zz zz e => e.elim
    subst hr
    exact wpAny_execs_nil (Hstop _ _ _ _ w hj₀ hw hs st₁ hfin)
  | cons d ds₁ =>
    refine wpAny_mono (I.next d ds₁ s₀ T₀ hst₀ g₀ al₀ lv₀) (fun r s₁ ⟨v, T₁, w, hr, hw, hs, st₁, rv, hst₁⟩ => ?_) fun zz zz e => e.elim
    subst hr
    refine wpAny_mono (I.own _ _ _ _ _ (fun zz s' => s' = s₁) hst₁ rfl) (fun zz s₁' e => ?_) fun zz zz e => e.elim
    subst e
    refine wpAny_mono (Hnext d ds₁ s₀ T₀ _ T₁ v w hj₀ hw hs st₁ hst₁ rv) (fun zz s₂ h₂ => wpAny_mono h₂ (fun f s₃ h₃ => ?_) fun zz zz e => e.elim) fun zz zz e => e.elim
    cases f with
    | next => obtain ⟨T₃, h1, h2⟩ := h₃; exact ⟨ds₁.length, by simp, T₃, ds₁, rfl, h1, h2⟩
    | cont => obtain ⟨T₃, h1, h2⟩ := h₃; exact ⟨ds₁.length, by simp, T₃, ds₁, rfl, h1, h2⟩
    | brk => exact h₃.elim
    | ret v => exact h₃

noncomputable def ExR (c : Cx) (env : Env) (sc : Scope) (X : Addr → Prop) (s : Shared) (T : Gh) (fl : Fl) (σ' : Sig) : Flow → Shared → Prop := fun f s' => ∃ T', StepG c (EnvW env sc) none s T s' T' ∧
  match fl with
  | .next => f = .next ∧ FrameOK s'.heap T' env sc σ' X
  | .ret d => ∃ v, f = .ret v ∧ Rp s'.heap T' X d v

theorem StepG.exr {s' : Shared} {T' : Gh} {fl : Fl} {σ' : Sig} {f : Flow} {s'' : Shared} (x : StepG c (EnvW env sc) none s T s' T') (h : ExR c env sc X s' T' fl σ' f s'') : ExR c env sc X s T fl σ' f s'' :=
  let ⟨T'', y, r⟩ := h; ⟨T'', x.trans y, r⟩
theorem FrameOK.al {s' : Shared} {T' : Gh} {σ' : Sig} (F' : FrameOK s'.heap T' env sc σ' X) (x : StepG c (EnvW env sc) none s T s' T') (h : Al c s.heap X) : Al c s'.heap X :=
  x.al h fun b w zz => let ⟨o, e, _⟩ := F'.notSeq b w.a; ⟨o, e⟩

noncomputable def isComp (e : Expr) : Bool := e.ctorIdx == 8 || (e.ctorIdx == 9 || e.ctorIdx == 10)
theorem sw_no (value : Expr) (t : Option Expr) (line : Nat) (h : isComp value = false) : swapsWith value t line env = pure false := by
  cases value <;> first | rfl | (cases h; done)
noncomputable def swB (env : Env) (scope : Scope) (vp : Pos) (x : Str) (p : Pos) : Bool := env.blockKind == ScopeKind.function && env.kindOf x == some NameKind.local && p.line == vp.line && !(scope.names.any fun (n, k) => n == x && (k == NameKind.local || k == NameKind.cell))
noncomputable def swT (f : Str → Pos → Bool) : Expr → Bool
  | .Name x p => f x p
  | _ => false
theorem swT_name {f : Str → Pos → Bool} {t : Expr} (h : swT f t = true) : ∃ x p, t = .Name x p := by
  unfold swT at h
  split at h
  · exact ⟨_, _, rfl⟩
  · cases h
theorem sw_list (elt : Expr) (gens : List Comprehension) (scope : Scope) (pos : Pos) (t : Expr) (line : Nat) : swapsWith (.ListComp elt gens scope pos) (some t) line env = pure (swT (swB env scope pos) t) := by
  cases t <;> rfl
theorem sw_set (elt : Expr) (gens : List Comprehension) (scope : Scope) (pos : Pos) (t : Expr) (line : Nat) : swapsWith (.SetComp elt gens scope pos) (some t) line env = pure (swT (swB env scope pos) t) := by
  cases t <;> rfl
theorem sw_dict (elt v : Expr) (gens : List Comprehension) (scope : Scope) (pos : Pos) (t : Expr) (line : Nat) : swapsWith (.DictComp elt v gens scope pos) (some t) line env = pure (swT (swB env scope pos) t) := by
  cases t <;> rfl
noncomputable def SwS (env : Env) (t : Expr) (line : Nat) (value : Expr) : Prop := ∃ b, swapsWith value (some t) line env = pure b ∧ (b = true → ∃ elt gens scope pos x px, value = .ListComp elt gens scope pos ∧ t = .Name x px ∨ ∃ a b s p, value = .SetComp a b s p ∨ ∃ a b d s p, value = .DictComp a b d s p)
theorem swNo {t value : Expr} {line : Nat} (h : isComp value = false) : SwS env t line value := ⟨false, sw_no _ _ _ h, fun q => absurd q Bool.false_ne_true⟩
theorem swaps_pure (value t : Expr) (line : Nat) : SwS env t line value := by
  cases value with
  | ListComp elt gens scope pos => exact ⟨_, sw_list elt gens scope pos t line, fun q => let ⟨x, p, e⟩ := swT_name q; ⟨elt, gens, scope, pos, x, p, .inl ⟨rfl, e⟩⟩⟩
  | SetComp elt gens scope pos => exact ⟨_, sw_set elt gens scope pos t line, fun q => ⟨elt, gens, scope, pos, "", pos, .inr ⟨_, _, _, _, .inl rfl⟩⟩⟩
  | DictComp k v gens scope pos => exact ⟨_, sw_dict k v gens scope pos t line, fun q => ⟨k, gens, scope, pos, "", pos, .inr ⟨k, gens, scope, pos, .inr ⟨_, _, _, _, _, rfl⟩⟩⟩⟩
  | _ => exact swNo (Eq.refl false)

theorem swapped_none {t value : Expr} (h : (isTup t && isTup value) = false) (ht : (∃ x p, t = .Name x p) ∨ ∃ a b p, t = .Tuple a b p) : swappedStores [t] value env = pure none := by
  rcases ht with ⟨x, p, rfl⟩ | ⟨a, b, p, rfl⟩
  · cases value <;> rfl
  · cases value <;> first | rfl | cases h

theorem bindT_form {t : Expr} {d : D} {σ' : Sig} (h : bindT sc t d σ = some σ') : (∃ x p, t = .Name x p) ∨ ∃ a b p, t = .Tuple a b p :=
  (bind_view t h).imp (fun ⟨x, p, e, _⟩ => ⟨x, p, e⟩) fun ⟨ts, k, p, _, _, e, _⟩ => ⟨ts, k, p, e⟩

set_option tactic.hygienic true
theorem assign_sound {K : Know} {k n : Nat} (B : Blt c) (KO : KnowOK c K k) (SO : SortOK c k) (hr : Room A k) (hl : LamOK c env sc) {t value : Expr} {pos : Pos} {d : D} {σ' : Sig} (g : Ok c s T) (hX : Al c s.heap X) (F : FrameOK s.heap T env sc σ X)
    (htt : (isTup t && isTup value) = false) (h1 : ev K n sc σ value = some d) (h2 : bindT sc t d σ = some σ') : wpAny (model c.prog c.w) A (exec (.Assign [t] value pos) env) (ExR c env sc X s T .next σ') noE s := by
  have E := (ev_tr B KO SO n).1 A env sc σ X hr hl
  have hform := bindT_form h2
  obtain ⟨b, hb, hbt⟩ := swaps_pure (env := env) value t pos.line
  have plainCase : b = false → wpAny (model c.prog c.w) A (exec (.Assign [t] value pos) env) (ExR c env sc X s T .next σ') noE s := fun hb0 => by
    subst hb0
    rw [arm_exec_Assign]
    refine wpAny_bind (wpAny_standAt (wpAny_bind (wpAny_of_eq (a := false) hb ?_)))
    rw [if_neg (by simp)]
    refine wpAny_bind (bindR g (E.ok _ _ _ _ h1 g hX F) fun v s₁ T₁ g₁ st₁ r₁ => ?_)
    refine wpAny_bind (wpAny_of_eq (swapped_none htt hform) ?_)
    have he : (assignEach [t] env).map (·.2) = [assign t env] := by rcases hform with ⟨x, p, rfl⟩ | ⟨a, b, p, rfl⟩ <;> rfl
    rw [he]
    show wpAny _ A (assign t env v >>= fun zz => pure Flow.next) _ _ s₁
    refine wpAny_bind (bind_ok hr.handled g₁ (st₁.al hX) (F.step g.gd st₁) h2 r₁ fun s₂ T₂ st₂ F₂ => wpAny_pure ⟨T₂, st₁.g.trans st₂, rfl, F₂⟩)
  cases b with
  | false => exact plainCase rfl
  | true =>
    cases n with
    | zero => exact noneE h1
    | succ n =>
      have hv : ∃ elt gens scope p x px, value = .ListComp elt gens scope p ∧ t = .Name x px := by
        obtain ⟨elt, gens, scope, p, x, px, h | ⟨_, _, _, _, h | ⟨_, _, _, _, _, h⟩⟩⟩ := hbt rfl
        · exact ⟨elt, gens, scope, p, x, px, h⟩
        · rw [h] at h1; exact noneE h1
        · rw [h] at h1; exact noneE h1
      obtain ⟨elt, gens, scope, p, x, px, rfl, rfl⟩ := hv
      replace h1 : (if (compOk sc scope && decide (scope ≠ K.lsc)) = true then (match gens with
        | ⟨t, it, ifs, as⟩ :: gs => if (as == 0) = true then (itE K (ev K n sc σ) sc it).bind fun ds =>
            (compL (compG K (ev K n scope) (tr K n scope) scope elt gs) scope t (tr K n scope) ifs (freeSig scope σ) ds).bind listD else none
        | [] => none) else none) = some d := h1
      split at h1
      · rename_i hc
        rw [Bool.and_eq_true, decide_eq_true_eq] at hc
        have hlam : ∀ cenv, LamOK c cenv scope := fun cenv e => absurd (e.trans KO.lsc.symm) hc.2
        cases gens with
        | nil => exact noneE h1
        | cons gn gs =>
          obtain ⟨t', it, ifs, as⟩ := gn
          dsimp only at h1
          split at h1
          · rename_i has
            have has' : as = 0 := by simpa using has
            subst has'
            rw [Option.bind_eq_some_iff] at h1
            obtain ⟨ds, h1, h3⟩ := h1
            rw [Option.bind_eq_some_iff] at h3
            obtain ⟨out, h3, h4⟩ := h3
            obtain ⟨hl', rfl⟩ := listD_some h4
            have ih := ev_tr B KO SO n
            have E' := ih.1 A env sc σ X hr hl
            rw [exec_Assign_Name_used _ _ _ _ hb]
            refine wpAny_bind (wpAny_standAt (wpAny_bind ?_))
            show wpAny _ A (do let _ ← comprehension (.ListComp elt (⟨t', it, ifs, 0⟩ :: gs) scope p) scope env it.pos (newList []) false (eval it env) (some (assign (.Name x px) env))) _ _ s
            refine wpAny_bind (wpAny_mono (comp_run (use := some (assign (.Name x px) env)) (Q := fun zz s' => ExR c env sc X s T .next σ' .next s') hr.handled hc.1 (it_ok B KO hr E') (fun cenv σ X => ih.1 A cenv scope σ X hr (hlam cenv)) (fun cenv σ X => ih.2 A cenv scope σ X hr (hlam cenv))
              (fun cenv σ X => it_ok B KO hr (ih.1 A cenv scope σ X hr (hlam cenv))) g hX F h1 h3 hl' fun C acc s' T' st hC h3' hn hr' => ?_) (fun zz zz q => wpAny_pure (wpAny_pure q)) fun zz zz e => e)
            have F' := F.step g.gd st
            refine wpAny_mono (bind_ok (Q := fun zz s'' => ∃ T'', StepG c (EnvW env sc) none s' T' s'' T'' ∧ FrameOK s''.heap T'' env sc σ' X) hr.handled (st.ok g) (st.al hX) F' h2 hr' fun s₂ T₂ st₂ F₂ => ⟨T₂, st₂, F₂⟩) (fun _ s₂ ⟨T₂, st₂, F₂⟩ => ?_) fun zz zz e => e
            obtain ⟨m, hn⟩ := hn
            have hCW : ∀ b, EnvA env b → b ≠ C := fun b hb q => by
              obtain ⟨o, e, _⟩ := F.notSeq b hb
              rw [q, hC] at e; cases e
            have hn₂ := Ns.keep (st.ok g).gd st₂ hn (fun w => hCW C w.a rfl)
            refine ⟨m, hn₂, fun h' hs => ?_⟩
            obtain ⟨o, es, ep, eo, hd, _⟩ := id hn₂
            have g₂ := st₂.ok (st.ok g)
            have st₃ : StepG c (fun b => b = C) none s₂ T₂ { s₂ with heap := h' } T₂ := StepG.mut eo (Harm.ns (by
              obtain ⟨ps, hP, _⟩ := g₂.gd.tab
              rintro rfl; rw [hP] at eo; cases eo; cases hd) hd h3') rfl (fun b o' hb e' => hs.extBut b o' hb e') (Nat.le_refl _)
            refine ⟨T₂, ?_, rfl, F₂.stepG g₂.gd st₃ (fun b o w e => ?_) hCW⟩
            · have s12 : StepG c (fun b => EnvW env sc b ∨ b = C) none s T { s₂ with heap := h' } T₂ := ((st.g.trans (st₂.mono fun b w => .inl (.inl w))).trans (st₃.mono fun b w => .inl (.inr w)))
              exact s12.mono fun b w => by
                rcases w with w | w
                · exact .inl w
                · exact .inr (w ▸ hC)
            · subst w; rw [eo] at e; cases e
              exact .inr (by rw [hd]; simp)
          · cases h1
      · cases h1

end Mine
end

section
open PySem PySem.W PyProof.Rows PySem.SeqAt
set_option maxRecDepth 100000
namespace Mine
variable {c : Cx} {A : Around} {s : Shared} {T : Gh} {X : Addr → Prop} {env : Env} {sc : Scope} {σ : Sig}

set_option tactic.hygienic false
theorem aug_sound {K : Know} {k n : Nat} (E : EvS c A env sc σ X (ev K n sc σ)) {x : Str} {px pos : Pos} {op : Operator} {value : Expr} {a b d : D} (g : Ok c s T) (hX : Al c s.heap X) (F : FrameOK s.heap T env sc σ X)
    (hx : stOk sc x = true) (h1 : σ x = some a) (h2 : ev K n sc σ value = some b)
    (hop : ∀ u v s' T', Ok c s' T' → Rp s'.heap T' X a u → Rp s'.heap T' X b v → wpAny (model c.prog c.w) A (inplaceOp op u v) (Res c s' T' X d) noE s') :
    wpAny (model c.prog c.w) A (exec (.AugAssign (.Name x px) op value pos) env) (ExR c env sc X s T .next (Sig.set σ x d)) noE s := by
  obtain ⟨u, hb, hu⟩ := F.has x a h1
  refine wpAny_AugAssign_Name ?_
  have rest : ∀ {Q : Value → Shared → Prop}, Q u s → wpAny (model c.prog c.w) A (loadName env x) Q noE s := fun hQ => by
    rcases hb with ⟨h1, m, h2, h3⟩ | ⟨h1 | h1, a, h2, h3⟩
    · exact wpAny_loadName_local F.eok.kind h1 h2 h3 hQ
    · exact wpAny_loadName_cell F.eok.kind h1 h2 h3 hQ
    · simp only [stOk, Bool.or_eq_true, beq_iff_eq] at hx
      rcases hx with hx | hx
      · rw [F.eok.loc x hx] at h1; cases h1
      · rw [F.eok.cel x hx] at h1; cases h1
  refine rest (bindR g (E.ok _ _ _ _ h2 g hX F) fun v s₁ T₁ g₁ st₁ r₁ => ?_)
  refine bindR g₁ (hop u v s₁ T₁ g₁ (st₁.rp g.gd hu) r₁) fun w s₂ T₂ g₂ st₂ r₂ => ?_
  exact store_ok g₂ (F.step g.gd (st₁.trans st₂)) hx r₂ fun s₃ st₃ F₃ => ⟨T₂, (st₁.trans st₂).g.trans st₃, rfl, F₃⟩

theorem for_sound {it t : Expr} {body : List Stmt} {pos : Pos} {ds : List D} {f : Expr → Option (List D)} {bd : Sig → Option (Fl × Sig)} {fl : Fl} {σ' : Sig} (hA : A.handled = none) (HI : ItS c A env sc σ X f) (g : Ok c s T) (hX : Al c s.heap X) (F : FrameOK s.heap T env sc σ X)
    (hit : f it = some ds) (hl : loopD sc bd t ds σ = some (fl, σ')) (hgen : genCall it = true → ∀ d, fl ≠ .ret d)
    (Hb : ∀ σ fl σ' s T, bd σ = some (fl, σ') → Ok c s T → Al c s.heap X → FrameOK s.heap T env sc σ X → wpAny (model c.prog c.w) A (execs body env) (ExR c env sc X s T fl σ') noE s) :
    wpAny (model c.prog c.w) A (exec (.For t it body [] pos) env) (ExR c env sc X s T fl σ') noE s := by
  rw [arm_exec_For]
  refine wpAny_bind (wpAny_standAt (wpAny_bind (wpAny_mono (HI.ok it ds s T hit g hX F) (fun xv s₁ h₁ => ?_) fun zz zz e => e)))
  refine wpAny_bind (wpAny_of_eq (folded_plain (HI.plain _ _ hit) xv) (wpAny_bind (wpAny_standAt (wpAny_bind (wpAny_holding (wpAny_mono h₁ (fun itv s₂ h₂ => ?_) fun zz zz e => e))))))
  obtain ⟨gi, hgi0, T₂, st, hI, hgi⟩ := h₂
  let U : Addr → Prop := fun b => EnvA env b ∨ X b
  obtain ⟨St, I, hst⟩ := hI X U (fun b h => .inr h) (fun b h => .inl h) fun b hb => .inr (by
    rcases hb with h | h
    · obtain ⟨o, e, hn⟩ := F.notSeq b h
      exact ⟨F.notP g.gd b h, o, e, .inr hn⟩
    · obtain ⟨hP, o, e⟩ := hX b h
      exact ⟨hP, o, e, .inl h⟩)
  have g₂ := st.ok g
  have F₂ : FrameOK s₂.heap T₂ env sc σ X := F.stepG g.gd st (fun b o w => w.elim) (fun b zz w => w)
  have al₂ : Al c s₂.heap X := st.al hX fun b w => w.elim
  have hfp : ∀ b, ¬ U b → ¬ EnvA env b ∧ ¬ X b := fun b hb => ⟨fun h => hb (.inl h), fun h => hb (.inr h)⟩
  let wr : Addr → Prop := fun b => ¬ U b ∧ s.heap.get? b = none
  have tot : ∀ {s' T'}, StepG c (fun b => EnvW env sc b ∨ wr b) gi s T s' T' → (∀ i, gi = some i → s'.gens[i]? = some .finished) → StepG c (EnvW env sc) none s T s' T' := fun x hf =>
    StepG.fin (x.mono fun b w => w.imp id (·.2)) fun i hi => ⟨hgi i hi, hf i hi⟩
  refine wpAny_runOwn (codeAny_mono (R := fun r s' => ∃ fw, r = .ok fw ∧ ExR c env sc X s T fl σ' fw s') (for_core I (fun ds' s' T' => Ok c s' T' ∧ Al c s'.heap X ∧ ∃ σ₁, FrameOK s'.heap T' env sc σ₁ X ∧ loopD sc bd t ds' σ₁ = some (fl, σ') ∧ StepG c (fun b => EnvW env sc b ∨ wr b) gi s T s' T')
    (fun ds' s' T' h => ⟨h.1, h.2.1, fun b => (Classical.em (U b)).symm.imp id fun q => by
      obtain ⟨_, hal, σ₁, F₁, _⟩ := h
      rcases q with q | q
      · obtain ⟨o, e, _⟩ := F₁.notSeq b q; exact ⟨o, e⟩
      · exact (hal b q).2⟩) ?_ ?_ hst ⟨g₂, al₂, σ, F₂, hl, st.mono fun b w => w.elim⟩) ?_)
  · rintro d ds' s₀ T₀ s' T' v w ⟨g₀, al₀, σ₁, F₀, hl₀, st₀⟩ hww hsoft stn hst' rv
    simp only [loopD] at hl₀
    rw [Option.bind_eq_some_iff] at hl₀
    obtain ⟨σ₂, hb, hl₀⟩ := hl₀
    rw [Option.bind_eq_some_iff] at hl₀
    obtain ⟨⟨fl₁, σ₃⟩, hbd, hl₀⟩ := hl₀
    have g' := stn.ok g₀
    have al' : Al c s'.heap X := stn.al al₀ fun b w q => absurd q (hfp b (I.sub b (hww b w))).2
    have F' := F₀.stepG g₀.gd stn hsoft fun b ha w => (hfp b (I.sub b (hww b w))).1 ha
    refine bind_ok hA g' al' F' hb rv fun s₃ T₃ st₃ F₃ => ?_
    have g₃ := st₃.ok g'
    have al₃ := F₃.al st₃ al'
    have hst₃ : St ds' s₃ T₃ := I.frame _ _ _ _ _ _ hst' g'.gd st₃ (fun b hb w => (hfp b hb).1 w.a) F'.soft
    refine wpAny_mono (Hb σ₂ fl₁ σ₃ s₃ T₃ hbd g₃ al₃ F₃) (fun fw s₄ h₄ => ?_) fun zz zz e => e
    obtain ⟨T₄, st₄, h₄⟩ := h₄
    have sofar : StepG c (fun b => EnvW env sc b ∨ wr b) gi s T s₄ T₄ := ((st₀.trans (stn.mono fun b w => .inl (.inr (hww b w)))).trans ((st₃.mono fun b w => .inl (.inl w)).gi)).trans ((st₄.mono fun b w => .inl (.inl w)).gi)
    cases fl₁ with
    | next =>
      obtain ⟨rfl, F₄⟩ := h₄
      dsimp only
      have hst₄ : St ds' s₄ T₄ := I.frame _ _ _ _ _ _ hst₃ g₃.gd st₄ (fun b hb w => (hfp b hb).1 w.a) F₃.soft
      exact ⟨T₄, hst₄, st₄.ok g₃, F₄.al st₄ al₃, σ₃, F₄, hl₀, sofar⟩
    | ret d₁ =>
      obtain ⟨v₁, rfl, r₁⟩ := h₄
      dsimp only
      cases hl₀
      have hgn : gi = none := by
        cases hg : genCall it with
        | true => exact absurd rfl (hgen hg d₁)
        | false => exact hgi0 hg
      exact ⟨_, rfl, T₄, tot sofar (by rw [hgn]; simp), v₁, rfl, r₁⟩
  · rintro s₀ T₀ s' T' w ⟨g₀, al₀, σ₁, F₀, hl₀, st₀⟩ hww hsoft stn hfin
    simp only [loopD] at hl₀
    cases hl₀
    exact ⟨_, rfl, T', tot (st₀.trans (stn.mono fun b w => .inl (.inr (hww b w)))) hfin, rfl, F₀.stepG g₀.gd stn hsoft fun b ha w => (hfp b (I.sub b (hww b w))).1 ha⟩
  · rintro r s' ⟨fw, rfl, h⟩
    exact h

noncomputable def exForms (st : Stmt) : Prop := (∃ t v p, st = .Assign [t] v p) ∨ (∃ x px op v p, st = .AugAssign (.Name x px) op v p) ∨ (∃ t b e p, st = .If t b e p) ∨ (∃ t it b p, st = .For t it b [] p) ∨ (∃ e p, st = .Return (some e) p)
noncomputable def exNone (st : Stmt) : Prop := ∀ (α : Type) (f1 : Expr → Expr → α) (f2 : Str → Operator → Expr → α) (f3 : Expr → List Stmt → List Stmt → α) (f4 : Expr → Expr → List Stmt → α) (f5 : Expr → α) (f6 : α), (match st with
      | .Assign [t] v _ => f1 t v
      | .AugAssign (.Name x _) op v _ => f2 x op v
      | .If t b e _ => f3 t b e
      | .For t it b [] _ => f4 t it b
      | .Return (some e) _ => f5 e
      | _ => f6) = f6
theorem exNo {st : Stmt} (h : exNone st) : exForms st ∨ exNone st := .inr h
theorem ex_view (st : Stmt) : exForms st ∨ exNone st := by
  induction st using Stmt.casesOn with
  | Assign ts v p =>
    induction ts using List.casesOn with
    | nil => exact exNo fun α zz zz zz zz zz f => @rfl α f
    | cons t ts =>
      induction ts using List.casesOn with
      | nil => exact .inl (.inl ⟨_, _, _, rfl⟩)
      | cons _ _ => exact exNo fun α zz zz zz zz zz f => @rfl α f
  | AugAssign t op v p =>
    induction t using Expr.casesOn with
    | Name x px => exact .inl (.inr (.inl ⟨_, _, _, _, _, rfl⟩))
    | _ => exact exNo fun α zz zz zz zz zz f => @rfl α f
  | If t b e p => exact .inl (.inr (.inr (.inl ⟨_, _, _, _, rfl⟩)))
  | For t it b els p =>
    induction els using List.casesOn with
    | nil => exact .inl (.inr (.inr (.inr (.inl ⟨_, _, _, _, rfl⟩))))
    | cons _ _ => exact exNo fun α zz zz zz zz zz f => @rfl α f
  | Return o p =>
    induction o using Option.casesOn with
    | some e => exact .inl (.inr (.inr (.inr (.inr ⟨_, _, rfl⟩))))
    | none => exact exNo fun α zz zz zz zz zz f => @rfl α f
  | _ => exact exNo fun α zz zz zz zz zz f => @rfl α f

set_option tactic.hygienic true
theorem ex_sound {K : Know} {k : Nat} (B : Blt c) (KO : KnowOK c K k) (SO : SortOK c k) (hr : Room A k) (hl : LamOK c env sc) : ∀ n,
    (∀ st σ fl σ' s T, ex K n sc σ st = some (fl, σ') → Ok c s T → Al c s.heap X → FrameOK s.heap T env sc σ X → wpAny (model c.prog c.w) A (exec st env) (ExR c env sc X s T fl σ') noE s) ∧
    (∀ sts σ fl σ' s T, exs K n sc σ sts = some (fl, σ') → Ok c s T → Al c s.heap X → FrameOK s.heap T env sc σ X → wpAny (model c.prog c.w) A (execs sts env) (ExR c env sc X s T fl σ') noE s) := by
  intro n
  induction n with
  | zero => exact ⟨fun st σ fl σ' s T h => noneE h, fun sts σ fl σ' s T h => noneE h⟩
  | succ n ih =>
    obtain ⟨ihx, ihs⟩ := ih
    constructor
    · intro st σ fl σ' s T h g hX F
      have E := (ev_tr B KO SO n).1 A env sc σ X hr hl
      have TR := (ev_tr B KO SO n).2 A env sc σ X hr hl
      obtain (⟨t, value, p, rfl⟩ | ⟨x, px, op, value, pos, rfl⟩ | ⟨t, b, e, p, rfl⟩ | ⟨t, it, body, pos, rfl⟩ | ⟨e, p, rfl⟩) | hn := ex_view st
      · -- Assign
        replace h : (if (isTup t && isTup value) = true then none else (ev K n sc σ value).bind fun d => (bindT sc t d σ).map fun σ' => (Fl.next, σ')) = some (fl, σ') := h
        split at h
        · cases h
        · rename_i htt
          rw [Option.bind_eq_some_iff] at h
          obtain ⟨d, h1, h2⟩ := h
          rw [Option.map_eq_some_iff] at h2
          obtain ⟨σ₁, h2, h3⟩ := h2
          cases h3
          exact assign_sound B KO SO hr hl g hX F (by simpa using htt) h1 h2
      · -- AugAssign
        by_cases hx : (!(stOk sc x)) = true
        · exact noneE ((if_pos hx).symm.trans h)
        · replace h := (if_neg hx).symm.trans h
          have hx' : stOk sc x = true := by simpa using hx
          obtain ⟨a, h1, h4⟩ := Option.bind_eq_some_iff.mp h
          obtain ⟨b, h2, h3⟩ := Option.bind_eq_some_iff.mp h4
          clear h4 h
          split at h3
          · cases h3
            refine aug_sound (k := k) E g hX F hx' h1 h2 fun u v s' T' g' ru rv => ?_
            simp only [Rp] at ru rv
            obtain ⟨t, rfl⟩ := ru; obtain ⟨t', rfl⟩ := rv
            exact AutoIntOps.iadd_0 (res_int _)
          · cases h3
            refine aug_sound (k := k) E g hX F hx' h1 h2 fun u v s' T' g' ru rv => ?_
            simp only [Rp] at ru rv
            obtain ⟨t, rfl⟩ := ru; obtain ⟨t', rfl⟩ := rv
            exact AutoIntOps.isub_0 (res_int _)
          · rw [Option.map_eq_some_iff] at h3
            obtain ⟨d, h3, h4⟩ := h3
            cases h4
            obtain ⟨hlen, rfl⟩ := strD_some h3
            refine aug_sound (k := k) E g hX F hx' h1 h2 fun u v s' T' g' ru rv => ?_
            simp only [Rp] at ru rv
            obtain ⟨_, t, rfl⟩ := ru; obtain ⟨_, t', rfl⟩ := rv
            refine leaf (PyProof.Rows.iadd_str (fun t' tk hk => res_str hlen hk) ?_)
            rw [Str.length_append] at hlen
            have := big_le; omega
          · cases h3
      · -- If
        obtain ⟨b', h1, h2⟩ := Option.bind_eq_some_iff.mp (show (tr K n sc σ t).bind (fun b' => if b' = true then exs K n sc σ b else exs K n sc σ e) = some (fl, σ') from h)
        rw [arm_exec_If]
        refine wpAny_bind (wpAny_standAt (wpAny_bind (wpAny_mono (TR _ _ _ _ h1 g hX F) (fun b'' s' ⟨q, T', st⟩ => ?_) fun zz zz e => e)))
        subst q
        cases b'' with
        | true =>
          rw [if_pos rfl] at h2
          rw [if_pos rfl]
          exact wpAny_mono (ihs _ _ _ _ _ _ h2 (st.ok g) (st.al hX) (F.step g.gd st)) (fun zz zz q => StepG.exr st.g q) fun zz zz e => e
        | false =>
          rw [if_neg (by simp)] at h2
          rw [if_neg (by simp)]
          exact wpAny_mono (ihs _ _ _ _ _ _ h2 (st.ok g) (st.al hX) (F.step g.gd st)) (fun zz zz q => StepG.exr st.g q) fun zz zz e => e
      · -- For
        obtain ⟨ds, h1, h2⟩ := Option.bind_eq_some_iff.mp (show (itE K (ev K n sc σ) sc it).bind (fun ds => (loopD sc (fun σ => exs K n sc σ body) t ds σ).bind fun r => match r with
          | (.next, σ') => some (.next, σ')
          | (.ret d, σ') => if genCall it = true then none else some (.ret d, σ')) = some (fl, σ') from h)
        obtain ⟨⟨fl₁, σ₁⟩, h2, h3⟩ := Option.bind_eq_some_iff.mp h2
        have hsame : (fl₁, σ₁) = (fl, σ') ∧ (genCall it = true → ∀ d, fl ≠ .ret d) := by
          cases fl₁ with
          | next => simp only at h3; cases h3; exact ⟨rfl, fun zz d q => by cases q⟩
          | ret d =>
            simp only at h3
            split at h3
            · cases h3
            · rename_i hg; cases h3; exact ⟨rfl, fun q => absurd q hg⟩
        obtain ⟨hs, hgen⟩ := hsame
        cases hs
        exact for_sound hr.handled (it_ok B KO hr E) g hX F h1 h2 hgen fun σ fl σ' s T h => ihs body σ fl σ' s T h
      · -- Return
        obtain ⟨d, h1, h2⟩ := Option.map_eq_some_iff.mp (show (ev K n sc σ e).map (fun d => (Fl.ret d, σ)) = some (fl, σ') from h)
        cases h2
        rw [arm_exec_Return]
        refine wpAny_bind (wpAny_standAt ?_)
        show wpAny _ A (eval _ env >>= fun x => pure (Flow.ret x)) _ _ s
        refine wpAny_bind (bindR g (E.ok _ _ _ _ h1 g hX F) fun v s' T' g' st r => wpAny_pure ⟨T', st.g, v, rfl, r⟩)
      · exact noneE ((hn _ _ _ _ _ _ _).symm.trans h)
    · intro sts σ fl σ' s T h g hX F
      cases sts with
      | nil =>
        cases h
        exact wpAny_execs_nil ⟨T, StepG.refl, rfl, F⟩
      | cons st rest =>
        obtain ⟨⟨fl₁, σ₁⟩, h1, h2⟩ := Option.bind_eq_some_iff.mp h
        refine wpAny_execs_cons (wpAny_mono (ihx _ _ _ _ _ _ h1 g hX F) (fun f s' h' => ?_) fun zz zz e => e)
        obtain ⟨T', st', h'⟩ := h'
        cases fl₁ with
        | next =>
          obtain ⟨rfl, F'⟩ := h'
          dsimp only at h2 ⊢
          exact wpAny_mono (ihs _ _ _ _ _ _ h2 (st'.ok g) (F'.al st' hX) F') (fun zz zz q => StepG.exr st' q) fun zz zz e => e
        | ret d =>
          obtain ⟨v, rfl, r⟩ := h'
          dsimp only at h2 ⊢
          cases h2
          exact ⟨T', st', v, rfl, r⟩

end Mine
end

section
open PySem PySem.W PyProof.Rows PySem.SeqAt
set_option maxRecDepth 100000
namespace Mine
variable {c : Cx} {A : Around} {s : Shared} {T : Gh} {X : Addr → Prop} {env : Env} {sc : Scope} {σ : Sig}

structure DefOK (c : Cx) (d : DefRec) : Prop where
  mem : d ∈ c.defs
  bind : ∀ vs pm code doc, vs.length = d.params.args.length → bindArgs (Calls.docDef d.name d.params d.body d.scope pm code doc) ⟨vs, []⟩ = pure ((d.params.args.map (·.arg)).zip vs)
  kind : d.scope.kind = .function
  gen : d.scope.isGenerator = false
  co : d.scope.isCoroutine = false
  free : ∀ y ∈ d.scope.names, y.2 ≠ .free
  par : ∀ x ∈ d.params.args.map (·.arg), stOk d.scope x = true
  lam : d.scope = c.lsc → d.name = "_law_text" ∧ d.name ++ ".<locals>." ++ "<lambda>" = c.qual

set_option tactic.hygienic false
theorem cells_acc : ∀ (names : List (Str × NameKind)) (n : Nat) (acc : List (Str × Addr)) (f : Str), (acc.lookup f).isSome = true → ((cellsFrom n names acc).lookup f).isSome = true
  | [], n, acc, f, h => h
  | (g, k) :: r, n, acc, f, h => by
    unfold cellsFrom
    split
    · refine cells_acc r _ _ f ?_
      rw [List.lookup_cons]
      cases f == g
      · exact h
      · rfl
    · exact cells_acc r _ _ f h
theorem cells_has : ∀ (names : List (Str × NameKind)) (n : Nat) (acc : List (Str × Addr)) (f : Str), (f, NameKind.cell) ∈ names → ((cellsFrom n names acc).lookup f).isSome = true
  | (g, k) :: r, n, acc, f, h => by
    unfold cellsFrom
    rcases List.mem_cons.mp h with q | q
    · cases q
      rw [if_pos (by rfl)]
      exact cells_acc r _ _ _ (by simp [List.lookup_cons])
    · split
      · exact cells_has r _ _ f q
      · exact cells_has r _ _ f q

set_option tactic.hygienic true
theorem binds_has {h : Heap} {kindOf : Str → Option NameKind} : ∀ (xs : List Str) (ds : List D) (vs : List Value) (m cm : Str → Option Value) (σ σ' : Sig), (∀ x ∈ xs, kindOf x = some .local ∨ kindOf x = some .cell) → setAll σ xs ds = some σ' → RpL h T X ds vs →
    (∀ x d, σ x = some d → ∃ v, Rp h T X d v ∧ ((kindOf x = some .local ∧ m x = some v) ∨ (kindOf x = some .cell ∧ cm x = some v))) →
    ∀ x d, σ' x = some d → ∃ v, Rp h T X d v ∧ ((kindOf x = some .local ∧ bindL kindOf (xs.zip vs) m x = some v) ∨ (kindOf x = some .cell ∧ bindC kindOf (xs.zip vs) cm x = some v))
  | [], ds, vs, m, cm, σ, σ', hk, hs, H, hσ => by
    cases ds with
    | nil =>
      simp only [setAll] at hs; cases hs
      exact hσ
    | cons _ _ => simp only [setAll] at hs; cases hs
  | x :: xs, ds, vs, m, cm, σ, σ', hk, hs, H, hσ => by
    cases ds with
    | nil => simp only [setAll] at hs; cases hs
    | cons d ds =>
      simp only [setAll] at hs
      simp only [RpL] at H
      obtain ⟨v, vs', rfl, h1, h2⟩ := H
      rw [List.zip_cons_cons]
      unfold bindL bindC
      refine binds_has xs ds vs' _ _ _ σ' (fun y hy => hk y (List.mem_cons_of_mem _ hy)) hs h2 fun y e hy => ?_
      have hkx := hk x (by simp)
      unfold Sig.set at hy
      split at hy
      · rename_i q; subst q; cases hy
        refine ⟨v, h1, ?_⟩
        rcases hkx with q | q
        · exact .inl ⟨q, by rw [if_pos q]; simp⟩
        · exact .inr ⟨q, by rw [if_neg (by rw [q]; simp)]; simp⟩
      · rename_i q
        obtain ⟨v', r1, r2⟩ := hσ y e hy
        refine ⟨v', r1, ?_⟩
        rcases r2 with ⟨a1, a2⟩ | ⟨a1, a2⟩
        · refine .inl ⟨a1, ?_⟩
          split
          · simp [q, a2]
          · exact a2
        · refine .inr ⟨a1, ?_⟩
          split
          · exact a2
          · simp [q, a2]

set_option tactic.hygienic false
theorem setAll_len : ∀ {xs : List Str} {ds : List D} {σ σ' : Sig}, setAll σ xs ds = some σ' → ds.length = xs.length
  | [], [], _, _, _ => rfl
  | [], _ :: _, _, _, h => by simp only [setAll] at h; cases h
  | _ :: _, [], _, _, h => by simp only [setAll] at h; cases h
  | _ :: _, _ :: _, _, _, h => by simp only [setAll] at h; simp [setAll_len h]

theorem fn_sound {K : Know} {k n : Nat} (B : Blt c) (KO : KnowOK c K k) (SO : SortOK c k) {d : DefRec} (DO : DefOK c d) {ds : List D} {v : D} (h : runD K n d ds = some v) {a : Addr} (ha : c.mg d.name = some (.ref a))
    {vs : List Value} (hr : Room A (k + 1)) (g : Ok c s T) (hX : Al c s.heap X) (H : RpL s.heap T X ds vs) :
    wpAny (model c.prog c.w) A (call (.ref a) vs) (Res c s T X v) noE s := by
  unfold runD at h
  rw [Option.bind_eq_some_iff] at h
  obtain ⟨σ₀, hσ, h⟩ := h
  rw [Option.bind_eq_some_iff] at h
  obtain ⟨⟨fl, σ'⟩, hex, hres⟩ := h
  obtain ⟨a', o, pm, code, doc, hm, ho, hd, hcd⟩ := g.gd.fn d DO.mem
  rw [ha] at hm; cases hm
  have hlen := setAll_len hσ
  have hvl := H.length
  refine wpAny_call (codeAny_call_function (fd := Calls.docDef d.name d.params d.body d.scope pm code doc) hr.lim ho hd DO.co DO.gen rfl hcd ?_)
  rw [DO.bind vs pm code doc (by rw [hvl, hlen]; simp)]
  have hpar : ∀ x ∈ (d.params.args.map (·.arg)).zip vs, d.scope.names.lookup x.1 = some .local ∨ (d.scope.names.lookup x.1 = some .cell ∧ ((cellsFrom (s.heap.objs.size + 1) d.scope.names []).lookup x.1).isSome = true) := fun x hx => by
    have hmem := (List.of_mem_zip hx).1
    have := DO.par x.1 hmem
    simp only [stOk, Bool.or_eq_true, beq_iff_eq] at this
    exact this.imp id fun q => ⟨q, cells_has _ _ _ _ (mem_of_lookup q)⟩
  refine wpAny_pure (wpAny_with_toks (Nat.le_refl _) (wpAny_newFunctionEnv_cells (scope := d.scope) DO.kind hpar fun env he s₁ x htk => ?_))
  refine ⟨g.gd.nolimit.keeps x.toInCall.keep, codeAny_func ?_⟩
  obtain ⟨h₁, tk, rfl, _⟩ := x.done
  have st₁ : Step c s T { s with heap := h₁, toks := tk } T := Step.of_push x.toInCall.keep htk
  have g₁ := st₁.ok g
  have e1 : env.scope = d.scope := by rw [he]; rfl
  have e2 : env.locals = s.heap.objs.size := by rw [he]; rfl
  have e3 : env.cells = cellsFrom (s.heap.objs.size + 1) d.scope.names [] := by rw [he]; rfl
  have e4 : env.globals = mainGlobals := by rw [he]; rfl
  have e5 : env.builtins = builtinsNs := by rw [he]; rfl
  have e6 : env.code = code := by rw [he]; rfl
  have hko : ∀ f, env.kindOf f = d.scope.names.lookup f := fun f => by unfold Env.kindOf; rw [e1]
  have h3 : (3 : Nat) < s.heap.objs.size := by
    obtain ⟨o, es, ep, hg, _⟩ := g.gd.g
    exact Heap.lt_size hg
  have eok : EnvOK env d.scope := by
    refine ⟨by rw [e1]; exact DO.kind, e4, e5, fun f e => by rw [hko]; exact e, fun f e => by rw [hko]; exact e, fun f e => ?_, fun f e => by rw [hko]; exact e, by rw [e2]; exact h3, fun f f' a h1 h2 => name_of_addr x.apart (mem_of_lookup h1) (mem_of_lookup h2)⟩
    rcases e with e | e
    · exact ⟨.inl (by rw [hko]; exact e), Option.isSome_iff_exists.mp (by rw [e3]; exact cells_has _ _ _ _ (mem_of_lookup e))⟩
    · exact absurd rfl (DO.free _ (mem_of_lookup e))
  have F₁ : FrameOK h₁ T env d.scope σ₀ X := by
    refine ⟨eok, ⟨_, x.toInCall.ns⟩, fun f a e => ⟨_, x.cell f a e⟩, fun y dd hy => ?_⟩
    obtain ⟨v, r1, r2⟩ := binds_has (kindOf := env.kindOf) (d.params.args.map (·.arg)) ds vs (fun zz => none) (fun zz => none) (fun zz => none) σ₀ (fun x hx => by
      rw [hko]
      have := DO.par x hx
      simpa only [stOk, Bool.or_eq_true, beq_iff_eq] using this) hσ (st₁.rpL g.gd H) (by intro x d e; cases e) y dd hy
    refine ⟨v, ?_, r1⟩
    rcases r2 with ⟨q1, q2⟩ | ⟨q1, q2⟩
    · exact .inl ⟨q1, _, x.toInCall.ns, q2⟩
    · obtain ⟨a, ha⟩ := (eok.ce y (.inl (by rw [← hko]; exact q1))).2
      refine .inr ⟨.inl q1, a, ha, ?_⟩
      have := x.cell y a ha
      rw [q2] at this
      exact this
  have hlam : LamOK c env d.scope := fun e => by
    obtain ⟨hname, hqual⟩ := DO.lam e
    obtain ⟨at', ot, fdt, q1, q2, q3, q4⟩ := g.gd.txt
    rw [← hname, ha] at q1; cases q1
    rw [ho] at q2; cases q2
    rw [hd] at q3; cases q3
    have e7 : env.qual = d.name ++ ".<locals>." := by rw [he]; rfl
    exact ⟨by rw [e6]; exact q4, by rw [e7]; exact hqual⟩
  have hW : ∀ b, EnvW env d.scope b → s.heap.get? b = none := fun b hb => by
    rcases hb.a with q | ⟨f, q⟩
    · rw [q, e2]; exact Heap.get?_none_of_le (Nat.le_refl _)
    · have := x.above f b (mem_of_lookup q)
      rw [e2] at this
      exact Heap.get?_none_of_le (Nat.le_of_lt this)
  refine wpAny_mono ((ex_sound (X := X) B KO SO (Room.deeper (env := env) hr) hlam n).2 d.body σ₀ fl σ' _ T hex g₁ (st₁.al hX) F₁) (fun f s' h' => ?_) fun zz zz e => e.elim
  obtain ⟨T', st', h'⟩ := h'
  have stt : Step c s T s' T' := (st₁.g.trans st').step hW
  cases fl with
  | next =>
    obtain ⟨rfl, _⟩ := h'
    dsimp only at hres
    cases hres
    exact ⟨T', stt, by simp only [Rp]⟩
  | ret dd =>
    obtain ⟨v', rfl, r⟩ := h'
    dsimp only at hres
    cases hres
    exact ⟨T', stt, r⟩

end Mine
end

section
open PySem PySem.W PyProof.Rows PySem.SeqAt
set_option maxRecDepth 100000
namespace Mine

inductive InvC (M : Model) (Γ : Ctx) (p : Pos) (s : Shared) (e : End) (s' : Shared) (c : Code) (h : Option Value) (g : Bool) (l : List Value) (k : Result → Sem PySem.Fin) : Prop
  | ret {s₁ : Shared} (r : Result) (h1 : Runs M (Γ.enter c h p) p (M.den c) [] s (.ret r) s₁) (h2 : Runs M Γ p (k r) [] s₁ e s') : InvC M Γ p s e s' c h g l k
  | susp (v : Value) (g₀ : Bool) (l₀ : List Value) (k₀ : Resume → Sem PySem.Fin) (c₀ : Code) (p₀ : Pos) (fs : List PySem.Frame) (h1 : Runs M (Γ.enter c h p) p (M.den c) [] s (.susp v g₀ l₀ k₀ c₀ p₀ fs) s') (q : e = .susp v g₀ l₀ k₀ c₀ p₀ (fs ++ [.ret k h g l Γ.code p []])) : InvC M Γ p s e s' c h g l k
inductive InvF (M : Model) (Γ : Ctx) (p : Pos) (s : Shared) (e : End) (s' : Shared) (g : Nat) (r : Resume) (k : GenResult → Sem PySem.Fin) (c : Code) : Prop
  | run {s₁ : Shared} (e₁ : End) (q : r = .send .none) (h1 : Runs M (Γ.wake c p) p (M.den c) [] (s.setGen g .running) e₁ s₁) (h2 : Runs M Γ p (k e₁.result) [] (s₁.setGen g e₁.genState) e s') : InvF M Γ p s e s' g r k c
  | just (v : Value) (q : r = .send v) (hv : v ≠ .none) (h : Runs M Γ p (k .justStarted) [] s e s') : InvF M Γ p s e s' g r k c
  | throw (x : Value) (q : r = .throw x) (h : Runs M Γ p (k (.raised x)) [] (s.setGen g .finished) e s') : InvF M Γ p s e s' g r k c
noncomputable def InvR (M : Model) (Γ : Ctx) (p : Pos) (s : Shared) (e : End) (s' : Shared) (g : Nat) (r : Resume) (k : GenResult → Sem PySem.Fin) : GenState → Prop
  | .fresh c => InvF M Γ p s e s' g r k c
  | .suspended k₀ _ c₀ p₀ fs _ => ∃ e₁ s₁, Runs M (Γ.wake c₀ p) p₀ (k₀ r) fs (s.setGen g .running) e₁ s₁ ∧ Runs M Γ p (k e₁.result) [] (s₁.setGen g e₁.genState) e s'
  | .running => Runs M Γ p (k .running) [] s e s'
  | .finished => Runs M Γ p (k .finished) [] s e s'
noncomputable def Inv (M : Model) (Γ : Ctx) (p : Pos) (s : Shared) (e : End) (s' : Shared) : Sem PySem.Fin → Prop
  | .pure (.done f) => e = .ret (.ok f) ∧ s' = s
  | .pure (.again c) => Runs M (Γ.goto c) p (M.den c) [] s e s'
  | .raise x => e = .ret (.error x) ∧ s' = s
  | .rule _ k => Runs M Γ p (k ()) [] s e s'
  | .at p' k => Runs M Γ p' (k ()) [] s e s'
  | .load a _ k => ∃ o, s.heap.get? a = some o ∧ Runs M Γ p (k o) [] s e s'
  | .update a _ f k => Runs M Γ p (k ()) [] { s with heap := s.heap.update a f } e s'
  | .loadIfAlive a k => Runs M Γ p (k (s.heap.get? a)) [] s e s'
  | .point _ k => Runs M Γ p (k ()) [] s e s'
  | .alloc o k => Runs M Γ p (k s.heap.objs.size) [] { s with heap := s.heap.push o } e s'
  | .fresh k => Runs M Γ p (k s.toks) [] { s with toks := s.toks + 1 } e s'
  | .ask k => Runs M Γ p (k ⟨M.prog, M.w.params⟩) [] s e s'
  | .choose src n k => Runs M Γ p (k (M.w.draws src (s.drawn.get src) % n)) [] { s with drawn := s.drawn.bump src } e s'
  | .os q _ k => Runs M Γ p (k (Os.step s.os q).2) [] { s with os := (Os.step s.os q).1 } e s'
  | .handled own k => Runs M Γ p (k (if own then Γ.own else Γ.handled)) [] s e s'
  | .genState g k => ∃ st, s.gens[g]? = some st ∧ Runs M Γ p (k st.seen) [] s e s'
  | .stack k => Runs M Γ p (k ((Γ.code, p) :: Γ.below)) [] s e s'
  | .thread k => Runs M Γ p (k 0) [] s e s'
  | .newGen c k => Runs M Γ p (k s.gens.size) [] { s with gens := s.gens.push (.fresh c) } e s'
  | .call c h g l k => InvC M Γ p s e s' c h g l k
  | .yield v g l k => e = .susp v g l k Γ.code p [] ∧ s' = s
  | .resume g r _ k => ∃ st, s.gens[g]? = some st ∧ InvR M Γ p s e s' g r k st
  | _ => False
inductive InvS (M : Model) (Γ : Ctx) (p : Pos) (t : Sem PySem.Fin) (F : PySem.Frame) (fs : List PySem.Frame) (s : Shared) (e : End) (s' : Shared) : Prop
  | ret {e₁ : End} {s₁ : Shared} (h1 : Runs M (Γ.over (F :: fs)) p t [] s e₁ s₁) {k h g l c₁ p₁ kp r} (q : F = .ret k h g l c₁ p₁ kp) (q2 : e₁ = .ret r) (h2 : Runs M (Γ.goto c₁) p₁ (k r) fs s₁ e s') : InvS M Γ p t F fs s e s'
  | gen {e₁ : End} {s₁ : Shared} (h1 : Runs M (Γ.over (F :: fs)) p t [] s e₁ s₁) {g k l c₁ p₁ r} (q : F = .gen g k l c₁ p₁) (q2 : e₁ = .ret r) (h2 : Runs M (Γ.goto c₁) p₁ (k (End.ret r).result) fs (s₁.setGen g .finished) e s') : InvS M Γ p t F fs s e s'
  | out {e₁ : End} (h1 : Runs M (Γ.over (F :: fs)) p t [] s e₁ s') {v g₀ l₀ k₀ c₀ p₀ fs₀} (hs : splitAtGen (F :: fs) = none) (q : e₁ = .susp v g₀ l₀ k₀ c₀ p₀ fs₀) (q2 : e = .susp v g₀ l₀ k₀ c₀ p₀ (fs₀ ++ F :: fs)) : InvS M Γ p t F fs s e s'
  | mid {e₁ : End} {s₁ : Shared} (h1 : Runs M (Γ.over (F :: fs)) p t [] s e₁ s₁) {pre g k c₁ p₁ rest v g₀ l₀ k₀ c₀ p₀ fs₀} (hs : splitAtGen (F :: fs) = some (pre, (g, k, c₁, p₁), rest)) (q : e₁ = .susp v g₀ l₀ k₀ c₀ p₀ fs₀) (h2 : Runs M (Γ.goto c₁) p₁ (k (.yielded v)) rest (s₁.setGen g (End.susp v g₀ l₀ k₀ c₀ p₀ (fs₀ ++ pre)).genState) e s') : InvS M Γ p t F fs s e s'
noncomputable def InvA (M : Model) (Γ : Ctx) (p : Pos) (t : Sem PySem.Fin) (fs : List PySem.Frame) (s : Shared) (e : End) (s' : Shared) : Prop := match fs with
  | [] => Inv M Γ p s e s' t
  | F :: fs => InvS M Γ p t F fs s e s'
set_option tactic.hygienic false
theorem inv_runs {M : Model} {Γ : Ctx} {p : Pos} {t : Sem PySem.Fin} {fs : List PySem.Frame} {s s' : Shared} {e : End} (h : Runs M Γ p t fs s e s') : InvA M Γ p t fs s e s' := by
  cases h with
  | done => exact ⟨rfl, rfl⟩
  | raise => exact ⟨rfl, rfl⟩
  | again _ h => exact h
  | rule h => exact h
  | «at» h => exact h
  | load q h => exact ⟨_, q, h⟩
  | update _ h => exact h
  | loadIfAlive h => exact h
  | point h => exact h
  | alloc h => exact h
  | fresh h => exact h
  | ask h => exact h
  | choose _ h => exact h
  | os h => exact h
  | handled h => exact h
  | genState q h => exact ⟨_, q, h⟩
  | stack h => exact h
  | thread h => exact h
  | newGen h => exact h
  | call h1 h2 => exact InvC.ret _ h1 h2
  | callSusp h1 => exact InvC.susp _ _ _ _ _ _ _ h1 rfl
  | yield => exact ⟨rfl, rfl⟩
  | resumeFresh q h1 _ h2 => exact ⟨_, q, InvF.run _ rfl h1 h2⟩
  | resumeSuspended q h1 _ h2 => exact ⟨_, q, _, _, h1, h2⟩
  | resumeJustStarted q hv h => exact ⟨_, q, InvF.just _ rfl hv h⟩
  | resumeThrowFresh q h => exact ⟨_, q, InvF.throw _ rfl h⟩
  | resumeRunning q h => exact ⟨_, q, h⟩
  | resumeFinished q h => exact ⟨_, q, h⟩
  | segRet h1 h2 => exact InvS.ret h1 rfl rfl h2
  | segGen h1 h2 => exact InvS.gen h1 rfl rfl h2
  | segSuspOut hs h1 => exact InvS.out h1 hs rfl rfl
  | segSuspGen hs h1 _ h2 => exact InvS.mid h1 hs rfl h2
theorem det {M : Model} {Γ : Ctx} {p : Pos} {t : Sem PySem.Fin} {fs : List PySem.Frame} {s s' : Shared} {e : End} (h : Runs M Γ p t fs s e s') : ∀ {e₂ : End} {s₂ : Shared}, Runs M Γ p t fs s e₂ s₂ → e = e₂ ∧ s' = s₂ := by
  have two : ∀ {e e₂ : End} {s' s₂ sx : Shared} {x : End}, e₂ = x ∧ s₂ = sx → e = x → s' = sx → e = e₂ ∧ s' = s₂ := fun h a b => ⟨a.trans h.1.symm, b.trans h.2.symm⟩
  induction h with
  | done => exact fun h2 => two (inv_runs h2) rfl rfl
  | raise => exact fun h2 => two (inv_runs h2) rfl rfl
  | again _ _ ih => exact fun h2 => ih (inv_runs h2)
  | rule _ ih => exact fun h2 => ih (inv_runs h2)
  | «at» _ ih => exact fun h2 => ih (inv_runs h2)
  | load q _ ih => exact fun h2 => let ⟨o, q', h⟩ := inv_runs h2; ih ((Option.some.inj (q.symm.trans q')) ▸ h)
  | update _ _ ih => exact fun h2 => ih (inv_runs h2)
  | loadIfAlive _ ih => exact fun h2 => ih (inv_runs h2)
  | point _ ih => exact fun h2 => ih (inv_runs h2)
  | alloc _ ih => exact fun h2 => ih (inv_runs h2)
  | fresh _ ih => exact fun h2 => ih (inv_runs h2)
  | ask _ ih => exact fun h2 => ih (inv_runs h2)
  | choose _ _ ih => exact fun h2 => ih (inv_runs h2)
  | os _ ih => exact fun h2 => ih (inv_runs h2)
  | handled _ ih => exact fun h2 => ih (inv_runs h2)
  | genState q _ ih => exact fun h2 => let ⟨o, q', h⟩ := inv_runs h2; ih ((Option.some.inj (q.symm.trans q')) ▸ h)
  | stack _ ih => exact fun h2 => ih (inv_runs h2)
  | thread _ ih => exact fun h2 => ih (inv_runs h2)
  | newGen _ ih => exact fun h2 => ih (inv_runs h2)
  | call _ _ ih1 ih2 =>
    intro e₂ s₂ h2
    cases (show InvC .. from inv_runs h2) with
    | ret r h1 h => obtain ⟨q1, rfl⟩ := ih1 h1; cases q1; exact ih2 h
    | susp _ _ _ _ _ _ _ h1 _ => exact End.noConfusion (ih1 h1).1
  | callSusp _ ih1 =>
    intro e₂ s₂ h2
    cases (show InvC .. from inv_runs h2) with
    | ret r h1 h => exact End.noConfusion (ih1 h1).1
    | susp _ _ _ _ _ _ _ h1 q2 => obtain ⟨q1, r1⟩ := ih1 h1; cases q1; exact ⟨q2.symm, r1⟩
  | yield => exact fun h2 => two (inv_runs h2) rfl rfl
  | resumeFresh q _ _ _ ih1 ih2 =>
    intro e₂ s₂ h2
    obtain ⟨st, q', h⟩ := inv_runs h2
    rw [q] at q'; cases q'
    cases (show InvF .. from h) with
    | run e₁ _ h1 h2 => obtain ⟨rfl, rfl⟩ := ih1 h1; exact ih2 h2
    | just v q hv _ => cases q; exact absurd rfl hv
    | throw x q _ => cases q
  | resumeSuspended q _ _ _ ih1 ih2 =>
    intro e₂ s₂ h2
    obtain ⟨st, q', h⟩ := inv_runs h2
    rw [q] at q'; cases q'
    obtain ⟨e₁, s₁, h1, h2⟩ := h
    obtain ⟨rfl, rfl⟩ := ih1 h1; exact ih2 h2
  | resumeJustStarted q hv _ ih =>
    intro e₂ s₂ h2
    obtain ⟨st, q', h⟩ := inv_runs h2
    rw [q] at q'; cases q'
    cases (show InvF .. from h) with
    | run e₁ q _ _ => cases q; exact absurd rfl hv
    | just v q _ h => exact ih h
    | throw x q _ => cases q
  | resumeThrowFresh q _ ih =>
    intro e₂ s₂ h2
    obtain ⟨st, q', h⟩ := inv_runs h2
    rw [q] at q'; cases q'
    cases (show InvF .. from h) with
    | run e₁ q _ _ => cases q
    | just v q _ h => cases q
    | throw x q h => cases q; exact ih h
  | resumeRunning q _ ih =>
    intro e₂ s₂ h2
    obtain ⟨st, q', h⟩ := inv_runs h2
    rw [q] at q'; cases q'
    exact ih h
  | resumeFinished q _ ih =>
    intro e₂ s₂ h2
    obtain ⟨st, q', h⟩ := inv_runs h2
    rw [q] at q'; cases q'
    exact ih h
  | segRet _ _ ih1 ih2 =>
    intro e₂ s₂ h2
    cases (show InvS .. from inv_runs h2) with
    | ret h1 q q2 h => obtain ⟨rfl, rfl⟩ := ih1 h1; cases q; cases q2; exact ih2 h
    | gen h1 q q2 h => cases q
    | out h1 hs q q2 => exact End.noConfusion ((ih1 h1).1.trans q)
    | mid h1 hs q h => exact End.noConfusion ((ih1 h1).1.trans q)
  | segGen _ _ ih1 ih2 =>
    intro e₂ s₂ h2
    cases (show InvS .. from inv_runs h2) with
    | ret h1 q q2 h => cases q
    | gen h1 q q2 h => obtain ⟨rfl, rfl⟩ := ih1 h1; cases q; cases q2; exact ih2 h
    | out h1 hs q q2 => exact End.noConfusion ((ih1 h1).1.trans q)
    | mid h1 hs q h => exact End.noConfusion ((ih1 h1).1.trans q)
  | segSuspOut hs _ ih1 =>
    intro e₂ s₂ h2
    cases (show InvS .. from inv_runs h2) with
    | ret h1 q q2 h => exact End.noConfusion ((ih1 h1).1.trans q2)
    | gen h1 q q2 h => exact End.noConfusion ((ih1 h1).1.trans q2)
    | out h1 hs q q2 => obtain ⟨q1, r1⟩ := ih1 h1; rw [← q1] at q; cases q; exact ⟨q2.symm, r1⟩
    | mid h1 hs' q h => rw [hs] at hs'; cases hs'
  | segSuspGen hs _ _ _ ih1 ih2 =>
    intro e₂ s₂ h2
    cases (show InvS .. from inv_runs h2) with
    | ret h1 q q2 h => exact End.noConfusion ((ih1 h1).1.trans q2)
    | gen h1 q q2 h => exact End.noConfusion ((ih1 h1).1.trans q2)
    | out h1 hs' q q2 => rw [hs] at hs'; cases hs'
    | mid h1 hs' q h => obtain ⟨rfl, rfl⟩ := ih1 h1; rw [hs] at hs'; cases hs'; cases q; exact ih2 h

theorem wakes_det {M : Model} {Γ : Ctx} {p : Pos} {g : Nat} {r : Resume} {s s' s'' : Shared} {res res' : GenResult} (h : Wakes M Γ p g r s res s') (h' : Wakes M Γ p g r s res' s'') : res = res' ∧ s' = s'' := by
  unfold Wakes at h h'
  generalize s.gens[g]? = q at h h'
  cases q with
  | none => exact h.elim
  | some q =>
    cases q with
    | fresh c =>
      dsimp only at h h'
      cases r with
      | throw x => exact ⟨h.1.trans h'.1.symm, h.2.trans h'.2.symm⟩
      | send v =>
        cases v <;> try exact ⟨h.1.trans h'.1.symm, h.2.trans h'.2.symm⟩
        obtain ⟨e₁, s₁, hr, _, rfl, rfl⟩ := h; obtain ⟨e₂, s₂, hr', _, rfl, rfl⟩ := h'
        obtain ⟨rfl, rfl⟩ := det hr hr'; exact ⟨rfl, rfl⟩
    | suspended k₀ l c₀ p₀ fs cl =>
      obtain ⟨e₁, s₁, hr, _, rfl, rfl⟩ := h; obtain ⟨e₂, s₂, hr', _, rfl, rfl⟩ := h'
      obtain ⟨rfl, rfl⟩ := det hr hr'; exact ⟨rfl, rfl⟩
    | running => exact ⟨h.1.trans h'.1.symm, h.2.trans h'.2.symm⟩
    | finished => exact ⟨h.1.trans h'.1.symm, h.2.trans h'.2.symm⟩

theorem wp_and {α : Type} (M : Model) (Γ : Ctx) (t : Sem α) : ∀ (Q Q' : α → Pos → Shared → Prop) (E E' : Value → Pos → Shared → Prop) (p : Pos) (s : Shared), Sem.wp M Γ t Q E p s → Sem.wp M Γ t Q' E' p s →
    Sem.wp M Γ t (fun a p' s' => Q a p' s' ∧ Q' a p' s') (fun e p' s' => E e p' s' ∧ E' e p' s') p s := by
  induction t with
  | pure a => intro Q Q' E E' p s h h'; exact ⟨h, h'⟩
  | raise e => intro Q Q' E E' p s h h'; exact ⟨h, h'⟩
  | unsupported _ => intro Q Q' E E' p s h _; exact h
  | finish _ => intro Q Q' E E' p s h _; exact h
  | rule _ k ih => intro Q Q' E E' p s h h'; exact ih () Q Q' E E' p s h h'
  | «at» p' k ih => intro Q Q' E E' p s h h'; exact ih () Q Q' E E' p' s h h'
  | load a _ k ih =>
    intro Q Q' E E' p s h h'
    obtain ⟨o, ho, h⟩ := h; obtain ⟨o', ho', h'⟩ := h'
    rw [ho] at ho'; cases ho'
    exact ⟨o, ho, ih o Q Q' E E' p s h h'⟩
  | update a _ f k ih => intro Q Q' E E' p s h h'; exact ⟨h.1, ih () Q Q' E E' p _ h.2 h'.2⟩
  | loadIfAlive a k ih => intro Q Q' E E' p s h h'; exact ih _ Q Q' E E' p s h h'
  | point _ k ih => intro Q Q' E E' p s h h'; exact ih () Q Q' E E' p s h h'
  | register _ _ => intro Q Q' E E' p s h _; exact h
  | alloc o k ih => intro Q Q' E E' p s h h'; exact ih _ Q Q' E E' p _ h h'
  | fresh k ih => intro Q Q' E E' p s h h'; exact ih _ Q Q' E E' p _ h h'
  | ask k ih => intro Q Q' E E' p s h h'; exact ih _ Q Q' E E' p s h h'
  | choose src m k ih => intro Q Q' E E' p s h h'; exact ⟨h.1, ih _ Q Q' E E' p _ h.2 h'.2⟩
  | os q _ k ih => intro Q Q' E E' p s h h'; exact ih _ Q Q' E E' p _ h h'
  | call c hd _ _ k ih =>
    intro Q Q' E E' p s h h'
    obtain ⟨r, s', hr, h⟩ := h; obtain ⟨r', s'', hr', h'⟩ := h'
    obtain ⟨q, rfl⟩ := det hr hr'
    cases q
    exact ⟨r, s', hr, ih r Q Q' E E' p s' h h'⟩
  | handled own k ih => intro Q Q' E E' p s h h'; exact ih _ Q Q' E E' p s h h'
  | genState g k ih =>
    intro Q Q' E E' p s h h'
    obtain ⟨st, hs, h⟩ := h; obtain ⟨st', hs', h'⟩ := h'
    rw [hs] at hs'; cases hs'
    exact ⟨st, hs, ih _ Q Q' E E' p s h h'⟩
  | newGen c k ih => intro Q Q' E E' p s h h'; exact ih _ Q Q' E E' p _ h h'
  | resume g r _ k ih =>
    intro Q Q' E E' p s h h'
    obtain ⟨res, s', hw, h⟩ := h; obtain ⟨res', s'', hw', h'⟩ := h'
    obtain ⟨rfl, rfl⟩ := wakes_det hw hw'
    exact ⟨res, s', hw, ih res Q Q' E E' p s' h h'⟩
  | yield _ _ _ _ => intro Q Q' E E' p s h _; exact h
  | stack k ih => intro Q Q' E E' p s h h'; exact ih _ Q Q' E E' p s h h'
  | fork _ _ => intro Q Q' E E' p s h _; exact h
  | thread k ih => intro Q Q' E E' p s h h'; exact ih _ Q Q' E E' p s h h'
  | await _ _ _ _ _ => intro Q Q' E E' p s h _; exact h

theorem wpAny_both {α : Type} {M : Model} {A : Around} {s : Shared} {t : Sem α} {Q Q' : α → Shared → Prop} {E E' : Value → Shared → Prop} (h : wpAny M A t Q E s) (h' : wpAny M A t Q' E' s) :
    wpAny M A t (fun a s' => Q a s' ∧ Q' a s') (fun e s' => E e s' ∧ E' e s') s := fun Γ p hΓ => wp_and M Γ t _ _ _ _ p s (h Γ p hΓ) (h' Γ p hΓ)

end Mine
end

section
open PySem PySem.W PyProof.Rows PySem.SeqAt
set_option maxRecDepth 100000
namespace Mine
variable {c : Cx} {A : Around} {s : Shared} {T : Gh} {X : Addr → Prop} {env : Env} {sc : Scope} {σ : Sig}

set_option tactic.hygienic false
theorem ins_perm (p : Int × D) : ∀ l, (insK p l).Perm (p :: l)
  | [] => List.Perm.refl _
  | q :: r => by
    unfold insK
    split
    · exact List.Perm.refl _
    · exact ((ins_perm p r).cons q).trans (List.Perm.swap p q r)
theorem srt_perm : ∀ l, (srtK l).Perm l
  | [] => List.Perm.refl _
  | p :: r => (ins_perm p _).trans ((srt_perm r).cons p)
set_option tactic.hygienic true
theorem ins_sorted (p : Int × D) : ∀ {l : List (Int × D)}, l.Pairwise (fun a b => a.1 ≤ b.1) → (insK p l).Pairwise (fun a b => a.1 ≤ b.1)
  | [], _ => by unfold insK; simp
  | q :: r, h => by
    obtain ⟨h1, h2⟩ := List.pairwise_cons.mp h
    unfold insK
    split
    · rename_i hle
      refine List.pairwise_cons.mpr ⟨fun a ha => ?_, h⟩
      rcases List.mem_cons.mp ha with rfl | ha
      · exact hle
      · exact Int.le_trans hle (h1 a ha)
    · rename_i hle
      refine List.pairwise_cons.mpr ⟨fun a ha => ?_, ins_sorted p h2⟩
      rcases List.mem_cons.mp ((ins_perm p r).mem_iff.mp ha) with rfl | ha
      · omega
      · exact h1 a ha
set_option tactic.hygienic false
theorem srt_sorted : ∀ l, (srtK l).Pairwise (fun a b => a.1 ≤ b.1)
  | [] => by unfold srtK; simp
  | p :: r => ins_sorted p (srt_sorted r)

theorem nodup_idx {l : List Int} (h : l.Nodup) {i j : Nat} {a : Int} (hi : l[i]? = some a) (hj : l[j]? = some a) : i = j := by
  obtain ⟨h1, h2⟩ := List.getElem?_eq_some_iff.mp hi
  obtain ⟨h3, h4⟩ := List.getElem?_eq_some_iff.mp hj
  have hp := List.pairwise_iff_getElem.mp h
  rcases Nat.lt_trichotomy i j with q | q | q
  · exact absurd (h2.trans h4.symm) (hp i j h1 h3 q)
  · exact q
  · exact absurd (h4.trans h2.symm) (hp j i h3 h1 q)

theorem sort_match {h : Heap} {ks : List (Int × D)} {vs : List Value} {ps : List (Int × Value)} (hn : (ks.map (·.1)).Nodup) (hp : ps.Perm ((ks.map (·.1)).zip vs)) (hs : ps.Pairwise fun p q => p.1 ≤ q.1) (H : RpL h T X (ks.map (·.2)) vs) :
    RpL h T X ((srtK ks).map (·.2)) (ps.map (·.2)) := by
  have hl : vs.length = ks.length := by have := H.length; simpa using this
  have pl : ps.length = ks.length := by have := hp.length_eq; simp [List.length_zip, hl] at this; exact this
  have sl : (srtK ks).length = ks.length := (srt_perm ks).length_eq
  have e : (srtK ks).map (·.1) = ps.map (·.1) := by
    refine List.Perm.eq_of_pairwise (le := (· ≤ ·)) (fun a b zz zz h1 h2 => Int.le_antisymm h1 h2) (List.pairwise_map.mpr (srt_sorted ks)) (List.pairwise_map.mpr hs) ?_
    refine ((srt_perm ks).map _).trans (((hp.map (·.1)).trans ?_).symm)
    rw [List.map_fst_zip (by simp [hl])]
  refine RpL.of_get (by simp [pl, sl]) fun i v d e1 e2 => ?_
  simp only [List.getElem?_map, Option.map_eq_some_iff] at e1 e2
  obtain ⟨⟨k, v'⟩, e1, rfl⟩ := e1
  obtain ⟨⟨k', d'⟩, e2, rfl⟩ := e2
  have hk : k = k' := by
    have := congrArg (fun l => l[i]?) e
    simp only [List.getElem?_map, e1, e2, Option.map_some] at this
    exact (Option.some.inj this).symm
  subst hk
  obtain ⟨j, hj⟩ := List.mem_iff_getElem?.mp (hp.mem_iff.mp (List.mem_of_getElem? e1))
  obtain ⟨j', hj'⟩ := List.mem_iff_getElem?.mp ((srt_perm ks).mem_iff.mp (List.mem_of_getElem? e2))
  rw [List.getElem?_zip_eq_some] at hj
  have h1 : (ks.map (·.1))[j']? = some k := by rw [List.getElem?_map, hj']; rfl
  have := nodup_idx hn hj.1 h1
  subst this
  obtain ⟨v2, q1, q2⟩ := H.get (i := j) (d := d') (by rw [List.getElem?_map, hj']; rfl)
  rw [hj.2] at q1; cases q1
  exact q2

theorem Gd.setTab {h h' : Heap} {c' : Addr} (g : Gd c h) (k : ∀ b o, b ≠ c.P → h.get? b = some o → h'.get? b = some o) (hP : h'.get? c.P = some (tabObj #[rawInt c.line, rawInt c.col, .ref c'])) (hc : h'.CodeRec (.ref c') c.qual) : Gd c h' := by
  obtain ⟨ps₀, hP₀, hps⟩ := g.tab
  obtain ⟨g1, g2, g3, g4, g5, g6, g7, g8, g9⟩ := g
  have notP : ∀ a o, h.get? a = some o → o.cls ≠ .none → a ≠ c.P := fun a o e hc q => by
    subst q; rw [hP₀] at e; cases e; exact hc rfl
  have hdn : ∀ a m, h.Ns a m → h'.Ns a m := fun a m x => Ns.but x hP₀ k
  refine ⟨hdn _ _ g1, hdn _ _ g2, ?_, ?_, fun dd hdd => ?_, ?_, ?_, ⟨_, hP, .inr ⟨c', rfl, hc⟩⟩, ?_⟩
  · obtain ⟨mc, q1, q2⟩ := g3; exact ⟨mc, hdn _ _ q1, q2⟩
  · obtain ⟨mc, q1, q2⟩ := g4; exact ⟨mc, hdn _ _ q1, q2⟩
  · obtain ⟨a, o, pm, code, doc, q1, q2, q3, q4⟩ := g5 dd hdd
    refine ⟨a, o, pm, code, doc, q1, k a o (fun q => ?_) q2, q3, ?_⟩
    · subst q; rw [hP₀] at q2; cases q2; cases q3
    · obtain ⟨a', o', vs, t, rfl, e, r1, r2⟩ := q4
      refine ⟨a', o', vs, t, rfl, k a' o' (fun q => ?_) e, r1, r2⟩
      subst q; rw [hP₀] at e; cases e; cases r1
      rcases hps with rfl | ⟨c', rfl, _⟩
      · simp at r2
      · simp [rawInt] at r2
  · obtain ⟨a, o, fd, q1, q2, q3, q4⟩ := g6
    exact ⟨a, o, fd, q1, k a o (fun q => by subst q; rw [hP₀] at q2; cases q2; cases q3) q2, q3, q4⟩
  · obtain ⟨o, vs, file, tf, flags, tg, inF, text, tt, e, r⟩ := g7
    exact ⟨o, vs, file, tf, flags, tg, inF, text, tt, k _ _ (notP _ _ e (by rw [r.1]; intro q; cases q)) e, r⟩
  · obtain ⟨bm, ob, q1, q2, q3, q4⟩ := g9
    exact ⟨bm, ob, q1, q2, k bm ob (notP _ _ q3 (by rw [q4.1]; intro q; cases q)) q3, q4⟩

structure LamScope (lsc : Scope) (x : Str) : Prop where
  one : x = "one"
  kind : lsc.kind = .function
  loc : lsc.names.lookup x = some .local
  gen : lsc.isGenerator = false
  co : lsc.isCoroutine = false
  cell : ∀ y ∈ lsc.names, y.2 ≠ .cell
  free : ∀ y ∈ lsc.names, y.2 ≠ .free
  dbg : (x == ("__debug__" : Str)) = false
theorem lamOk_some {lsc : Scope} {x : Str} (h : lamOk lsc x = true) : LamScope lsc x := by
  simp only [lamOk, Bool.and_eq_true, beq_iff_eq, List.all_eq_true, bne_iff_ne, ne_eq, Bool.not_eq_true', Bool.or_eq_false_iff] at h
  obtain ⟨⟨⟨⟨⟨⟨h0, h1⟩, h2⟩, h3⟩, h4⟩, h5⟩, h6, h7⟩ := h
  exact ⟨h0, h1, h2, h3, h4, fun y hy => (h5 y hy).1, fun y hy => (h5 y hy).2, h6⟩

theorem lam_made {x : Str} {p₂ p₃ : Pos} {body : Expr} {lsc : Scope} (L : LamScope lsc x) (E : EnvOK env sc) (hlam : env.code = .ref c.cT ∧ env.qual ++ "<lambda>" = c.qual) (hpos : (p₂.line, p₂.col) = (c.line, c.col)) (g : Ok c s T) :
    wpAny (model c.prog c.w) A (eval (.Lambda ⟨[], [⟨x, none, p₃⟩], none, [], [], none, []⟩ body lsc p₂) env)
      (fun v s' => ∃ q c₁ pm ctv, v = .ref q ∧ Step c s T s' T ∧ s'.heap.get? q = some (kla_obj "<lambda>" c.qual ⟨[], [⟨x, none, p₃⟩], none, [], [], none, []⟩ body lsc [] pm c₁ ctv) ∧ s'.heap.CodeRec (.ref c₁) c.qual) noE s := by
  rw [arm_eval_Lambda]
  show wpAny _ A (evalAll [] >>= fun dv => holding dv (evalAllOpt []) >>= fun kdv => makeFunction "<lambda>" (env.qual ++ "<lambda>") _ (.expr body) lsc env dv kdv [] p₂ p₂.line) _ _ s
  refine wpAny_bind (evalAll_nil (wpAny_bind (wpAny_holding (wpAny_pure ?_))))
  rw [hlam.2]
  have hp1 : p₂.line = c.line := congrArg Prod.fst hpos
  have hp2 : p₂.col = c.col := congrArg Prod.snd hpos
  obtain ⟨ps, hP, hps⟩ := g.gd.tab
  have hb : s.heap.BuiltinsAt c.mg c.P := by
    obtain ⟨bm, ob, q1, q2, q3, q4, q5, q6⟩ := g.gd.bmain
    refine ⟨bm, ob, q1, q2, fun q => ?_, fun q => ?_, q3, q4, q5, q6⟩
    · obtain ⟨o, es, ep, e, hd, _⟩ := g.gd.g
      rw [q, e] at q3; cases q3; rw [hd] at q6; cases q6
    · rw [q, hP] at q3; cases q3; cases q4
  have hcl := closureFor_none (env := env) L.free
  rcases hps with rfl | ⟨c₁, rfl, hrec⟩
  · have hgP : mainGlobals ≠ c.P := fun q => by
      obtain ⟨o, es, ep, e, hd, _⟩ := g.gd.g
      rw [q, hP] at e; cases e; cases hd
    refine leaf (kla_makeFunction hcl E.glob g.gd.g hlam.1 g.gd.hd hP trivial rfl hgP hb fun c' ctv h' tk hext hle hlt hrec hP' htk => ?_)
    have hP'' : h'.get? c.P = some (tabObj #[rawInt c.line, rawInt c.col, .ref c']) := by
      rw [← hp1, ← hp2]; simpa using hP'
    have hg' : Gd c h' := g.gd.setTab (fun b o hb e => hext b o hb e) hP'' hrec
    refine ⟨_, c', _, ctv, rfl, ?_, Heap.get?_push_size _ rfl, hrec.push _⟩
    refine ⟨fun b o hb e => Heap.get?_push_of_some _ (hext b o hb e), htk, fun zz zz e => e, fun zz => ⟨hg'.keeps fun b o e => Heap.get?_push_of_some _ e, Nat.lt_of_lt_of_le g.pos htk, fun t' x e => ⟨Nat.lt_of_lt_of_le (g.tv t' x e).1 htk, (g.tv t' x e).2⟩⟩, rfl, Nat.le_refl _, fun zz zz => rfl, fun zz zz => noGen⟩
  · refine leaf (kla_makeFunctionHit (cv := .ref c₁) hcl E.glob g.gd.g hlam.1 g.gd.hd hP trivial ?_ hb fun ctv h' tk hk hle htk => ?_)
    · simp [codeAmong, rawInt, hp1, hp2]
    · have st : Step c s T { s with heap := h'.push (kla_obj "<lambda>" c.qual ⟨[], [⟨x, none, p₃⟩], none, [], [], none, []⟩ body lsc [] ((c.mg "__name__").getD .none) c₁ ctv), toks := tk } T :=
        Step.of_push (fun b o e => Heap.get?_push_of_some _ (hk b o e)) htk
      exact ⟨_, c₁, _, ctv, rfl, st, Heap.get?_push_size _ rfl, (hrec.keeps hk).push _⟩

theorem lam_call {x : Str} {p₃ p₄ p₅ p₆ p₇ : Pos} {j : Int} {k' : Nat} {lsc : Scope} {q c₁ l : Addr} {pm ctv : Value} {qual : Str} {vs : List Value} {i : Int} {t : Tok} {h₀ : Heap} {L : Addr} {m : Str → Option Value} {need : List (Addr × Obj)}
    (LS : LamScope lsc x) (hroom : A.depth < recursionLimit) (hlim : s.heap.NoLimit)
    (hq : s.heap.get? q = some (kla_obj "<lambda>" qual ⟨[], [⟨x, none, p₃⟩], none, [], [], none, []⟩ (.UnaryOp .USub (.Subscript (.Name x p₄) (.Constant (.int j) k' p₅) p₆) p₇) lsc [] pm c₁ ctv)) (hc : s.heap.CodeRec (.ref c₁) qual)
    (hl : s.heap.PlainList l vs.toArray) (hj0 : 0 ≤ j) (hj : vs[j.toNat]? = some (.int i t)) (hjs : j < 2 ^ 63) (F : Fr h₀ L s.heap m) (N : News h₀ L s.heap need) :
    wpAny (model c.prog c.w) A (call (.ref q) [.ref l]) (KskEnd h₀ L m need (-i) s) (fun zz zz => False) s := by
  refine wpAny_call (kla_callFunE (fd := kla_fn "<lambda>" qual ⟨[], [⟨x, none, p₃⟩], none, [], [], none, []⟩ (.UnaryOp .USub (.Subscript (.Name x p₄) (.Constant (.int j) k' p₅) p₆) p₇) lsc [] pm (.ref c₁) ctv) hroom hq rfl LS.co LS.gen rfl hc ?_)
  have hb : bindArgs (kla_fn "<lambda>" qual ⟨[], [⟨x, none, p₃⟩], none, [], [], none, []⟩ (.UnaryOp .USub (.Subscript (.Name x p₄) (.Constant (.int j) k' p₅) p₆) p₇) lsc [] pm (.ref c₁) ctv) ⟨[.ref l], []⟩ = pure [(x, .ref l)] := by
    rw [LS.one]; rfl
  rw [hb]
  refine wpAny_pure (wpAny_newFunctionEnv LS.cell (by simpa using LS.loc) (fun h' hn hs => ?_) LS.kind)
  have keep : ∀ b o, s.heap.get? b = some o → h'.get? b = some o := fun b o e => hs.extBut b o (Nat.ne_of_lt (Heap.lt_size e)) (Heap.get?_push_of_some _ e)
  refine ⟨hlim.keeps keep, kla_codeExpr (wpAny_mono (E := fun zz zz => False) ?_ (fun zz zz q => q) fun zz zz e => e.elim)⟩
  refine wpAny_UnaryOp (Subscript_ (wpAny_Name (wpAny_loadName_local LS.kind LS.loc hn (v := .ref l) (by simp) ?_) LS.dbg))
  refine wpAny_Constant_int ?_
  have hl' : h'.PlainList l vs.toArray := let ⟨n, e⟩ := hl; ⟨n, keep _ _ e⟩
  refine tail_any hl'.isList.typeIs slot_list_getitem.lookup (wpAny_getItem_list hl'.isList hj0 hjs (by simpa using hj) ?_) (sub_plain rfl)
  refine PyProof.Rows.neg_int ?_
  exact ⟨h', _, _, rfl, rfl, ⟨F.ns.keeps keep, fun b o e => keep b o (F.keep b o e), F.above⟩, fun p hp => ⟨keep _ _ (N p hp).1, (N p hp).2⟩⟩

end Mine
end

section
open PySem PySem.W PyProof.Rows PySem.SeqAt
set_option maxRecDepth 100000
namespace Mine
variable {c : Cx} {A : Around} {s : Shared} {T : Gh} {X : Addr → Prop} {env : Env} {sc : Scope} {σ : Sig}

theorem keys_snd {f : D → Option Int} : ∀ {xs : List D} {ks : List (Int × D)}, keysD f xs = some ks → ks.map (·.2) = xs ∧ ∀ (i : Nat) k d, ks[i]? = some (k, d) → f d = some k
  | [], ks, h => by simp only [keysD] at h; cases h; exact ⟨rfl, by simp⟩
  | x :: xs, ks, h => by
    simp only [keysD] at h
    split at h
    · rename_i k hk
      rw [Option.map_eq_some_iff] at h
      obtain ⟨ks', h', rfl⟩ := h
      obtain ⟨h1, h2⟩ := keys_snd h'
      refine ⟨by simp [h1], fun i k' d e => ?_⟩
      cases i with
      | zero => simp at e; obtain ⟨rfl, rfl⟩ := e; exact hk
      | succ i => exact h2 i k' d (by simpa using e)
    · cases h

noncomputable def allBut (h : Heap) (L : Addr) : List (Addr × Obj) := ((List.range h.objs.size).filterMap fun b => (h.get? b).map fun o => (b, o)).filter fun p => decide (p.1 ≠ L)
set_option tactic.hygienic false
theorem mem_allBut {h : Heap} {L b : Addr} {o : Obj} : (b, o) ∈ allBut h L ↔ h.get? b = some o ∧ b ≠ L := by
  unfold allBut
  rw [List.mem_filter, decide_eq_true_eq]
  refine and_congr ?_ Iff.rfl
  rw [List.mem_filterMap]
  constructor
  · rintro ⟨b', _, h2⟩
    rw [Option.map_eq_some_iff] at h2
    obtain ⟨o', h3, h4⟩ := h2
    cases h4; exact h3
  · intro h1
    exact ⟨b, List.mem_range.mpr (Heap.lt_size h1), by rw [h1]; rfl⟩

set_option tactic.hygienic true
theorem sorted_run {k : Nat} {x : Str} {p₃ p₄ p₅ p₆ p₇ : Pos} {j : Int} {k' : Nat} {lsc : Scope} {q c₁ l : Addr} {pm ctv : Value} {vs : List Value} {xs : List D} {ks : List (Int × D)} (hr : Room A k) (LS : LamScope lsc x) (g : Ok c s T)
    (hq : s.heap.get? q = some (kla_obj "<lambda>" c.qual ⟨[], [⟨x, none, p₃⟩], none, [], [], none, []⟩ (.UnaryOp .USub (.Subscript (.Name x p₄) (.Constant (.int j) k' p₅) p₆) p₇) lsc [] pm c₁ ctv)) (hc : s.heap.CodeRec (.ref c₁) c.qual)
    (hl : s.heap.PlainList l vs.toArray) (H : RpL s.heap T X xs vs) (hks : keysD (keyAt j) xs = some ks) (h64 : xs.length < 64) {L : Addr} {m : Str → Option Value} (hL : s.heap.Ns L m) (hL2 : L ≠ cStatics) :
    wpAny (model c.prog c.w) A (call (.builtin "sorted") [.ref l] [(Str.ofString "key", .ref q)]) (fun v s' => ∃ D h' tk out cc, v = .ref D ∧ s' = { s with heap := h', toks := tk } ∧ (∀ b o, b ≠ L → s.heap.get? b = some o → h'.get? b = some o) ∧
      h'.get? D = some (seqObj "list" out cc) ∧ (∀ b o, b ≠ L → s.heap.get? b = some o → b < D) ∧ D ≠ L ∧ KskOut false (ks.map (·.1)) vs out.toList) noE s := by
  obtain ⟨e1, e2⟩ := keys_snd hks
  have hvl := H.length
  have hkl : ks.length = xs.length := by rw [← e1]; simp
  have F : Fr ({} : Heap) L s.heap m := ⟨hL, fun b o e => by simp [Heap.get?] at e, Nat.zero_le _⟩
  have N : News ({} : Heap) L s.heap (allBut s.heap L) := fun p hp => by
    obtain ⟨b, o⟩ := p
    have := mem_allBut.mp hp
    exact ⟨this.1, this.2, by simp [Heap.get?]⟩
  have notL : ∀ b o, s.heap.get? b = some o → (∀ es ep, o.data ≠ .dict es ep) → b ≠ L := fun b o e hd q => by
    obtain ⟨o', es, ep, e', hd', _⟩ := hL
    rw [q, e'] at e; cases e; exact hd _ _ hd'
  refine ksk_sorted (kz := ks.map (·.1)) (b := false) (f := .ref q) F N hl.isList (by simp [hkl, hvl]) (by rw [hvl]; exact h64) (ksk_s1 _ _) (fun x => ksk_l1 _ _) (fun x => ksk_t1 _ _) (fun i v kk hv hk h tk own F' N' => ?_) fun D h' tk out cc F' N' hlt hout => ?_
  · have keep : ∀ b o, b ≠ L → s.heap.get? b = some o → h.get? b = some o := fun b o hb e => (N' (b, o) (List.mem_append_left _ (mem_allBut.mpr ⟨e, hb⟩))).1
    rw [List.getElem?_map, Option.map_eq_some_iff] at hk
    obtain ⟨⟨kk', d⟩, hk, rfl⟩ := hk
    have hd := e2 i _ _ hk
    obtain ⟨v', hv', rv⟩ := H.get (i := i) (d := d) (by rw [← e1, List.getElem?_map, hk]; rfl)
    rw [hv] at hv'; cases hv'
    unfold keyAt at hd
    split at hd
    · rename_i ys
      split at hd
      · rename_i qq hidx
        cases hd
        simp only [Rp] at rv
        obtain ⟨hyl, a, us, rfl, _, hpl, hus⟩ := rv
        simp only [idxD] at hidx
        split at hidx
        · rename_i hj0
          obtain ⟨w, hw, rw'⟩ := hus.get hidx
          simp only [Rp] at rw'
          obtain ⟨t, rfl⟩ := rw'
          have hjl : j.toNat < ys.length := (List.getElem?_eq_some_iff.mp hidx).1
          have hkeepL : h.PlainList a us.toArray := by
            obtain ⟨n, e⟩ := hpl
            exact ⟨n, keep _ _ (notL _ _ e (by simp)) e⟩
          have hlim : h.NoLimit := by
            obtain ⟨mc, ⟨o, es, ep, e, r⟩, r2⟩ := g.gd.nolimit
            exact ⟨mc, ⟨o, es, ep, keep _ _ (Ne.symm hL2) e, r⟩, r2⟩
          have hcr : h.CodeRec (.ref c₁) c.qual := by
            obtain ⟨a', o', ws, t', ee, e, r1, r2⟩ := hc
            exact ⟨a', o', ws, t', ee, keep _ _ (notL _ _ e (by rw [r1]; simp)) e, r1, r2⟩
          have hq' := keep _ _ (notL _ _ hq (by simp)) hq
          exact lam_call (c := c) (s := { s with heap := h, toks := tk }) LS (A := A.in1.in1) hr.lim hlim hq' hcr hkeepL hj0 hw (by unfold big at hyl; omega) F' N'
        · cases hidx
      · cases hd
    · cases hd
  · refine ⟨D, h', tk, out, cc, rfl, rfl, fun b o hb e => ?_, (N' _ List.mem_cons_self).1, fun b o hb e => hlt (b, o) (mem_allBut.mpr ⟨e, hb⟩), (N' _ List.mem_cons_self).2.1, hout⟩
    exact (N' (b, o) (List.mem_cons_of_mem _ (mem_allBut.mpr ⟨e, hb⟩))).1

set_option tactic.hygienic false
theorem sort_ok (B : Blt c) (k : Nat) : SortOK c k := by
  intro A env sc σ X s T f e p₁ p₂ p₃ p₄ p₅ p₆ p₇ p₈ pos j k' x lsc xs ks hr E hlam hpos h1 hks hnd h64 hg hlo g hX F
  have LS := lamOk_some hlo
  refine wpAny_bind (blt_ok g F.eok hg (by decide) (B.no _ (by decide)) B.sorted ?_)
  have hs : seqM f [e] = some [.list xs] := by simp only [seqM, h1, Option.map_some]
  refine callWith_kw (e := e) (rest := []) (kws := [⟨some "key", .Lambda ⟨[], [⟨x, none, p₃⟩], none, [], [], none, []⟩ (.UnaryOp .USub (.Subscript (.Name x p₄) (.Constant (.int j) k' p₅) p₆) p₇) lsc p₂, p₈⟩]) ?_
    (by rw [starEach_plain (E.plain _ _ h1)]; rfl) (plain_any E pos hs) rfl rfl
  refine wpAny_mono (seqM_ok E pos [e] _ s T hs g hX F) (fun us s₁ ⟨T₁, st₁, r₁⟩ => ?_) fun zz zz e => e
  have g₁ := st₁.ok g
  simp only [RpL] at r₁
  obtain ⟨v, _, rfl, rv, rfl⟩ := r₁
  refine kws_cons (wpAny_mono (lam_made LS F.eok hlam hpos g₁) (fun qv s₂ ⟨q, c₁, pm, ctv, hqv, st₂, hq, hc⟩ => kws_nil ?_) fun zz zz e => e)
  subst hqv
  have g₂ := st₂.ok g₁
  have st12 := st₁.trans st₂
  have rv₂ := st₂.rp g₁.gd rv
  simp only [Rp] at rv₂
  obtain ⟨hxl, l, vs, rfl, hlX, hpl, H⟩ := rv₂
  show wpAny _ A (call (.builtin "sorted") [.ref l] [(Str.ofString "key", .ref q)]) _ _ s₂
  obtain ⟨mL, hnL⟩ := (F.step g.gd st12).ns
  have run1 := sorted_run (c := c) (X := X) hr LS g₂ hq hc hpl H hks h64 hnL (fun q => by
    have := F.eok.low
    rw [q] at this
    exact absurd this (by show ¬ ((3 : Nat) < 2); omega))
  have run2 := sorted_run (c := c) (X := X) hr LS g₂ hq hc hpl H hks h64 g₂.gd.g (by decide)
  refine leaf (wpAny_mono (wpAny_both run1 run2) (fun v s' h htk => ?_) fun zz zz e => e.1)
  obtain ⟨⟨D, h', tk, out, cc, rfl, rfl, k1, hD, hlt1, hDL, hout⟩, ⟨D', h'', tk', out', cc', hv', hs', k2, _, hlt2, _, _⟩⟩ := h
  cases hv'; cases hs'
  have hne : env.locals ≠ mainGlobals := fun q => by
    have := F.eok.low
    rw [q] at this
    exact absurd this (by show ¬ ((3 : Nat) < 3); omega)
  have keep : ∀ b o, s₂.heap.get? b = some o → h'.get? b = some o := fun b o e => by
    by_cases hb : b = env.locals
    · exact k2 b o (by rw [hb]; exact hne) e
    · exact k1 b o hb e
  have hlt : ∀ b o, s₂.heap.get? b = some o → b < D := fun b o e => by
    by_cases hb : b = env.locals
    · exact hlt2 b o (by rw [hb]; exact hne) e
    · exact hlt1 b o hb e
  have st₃ : Step c s₂ T₁ { s₂ with heap := h', toks := tk } T₁ := Step.of_push keep htk
  refine ⟨T₁, st12.trans st₃, ?_⟩
  obtain ⟨e1, _⟩ := keys_snd hks
  obtain ⟨ps, hp, ho, hsrt⟩ := hout
  have hsl : ((srtK ks).map (·.2)).length ≤ big := by
    rw [List.length_map, (srt_perm ks).length_eq, ← List.length_map (f := (·.2)) (as := ks), e1]; exact hxl
  simp only [Rp]
  refine ⟨hsl, D, out.toList, rfl, fun hx => ?_, ⟨cc, by simpa using hD⟩, ?_⟩
  · obtain ⟨_, o, e⟩ := (st12.al hX) D hx
    exact Nat.lt_irrefl _ (hlt D o e)
  · rw [ho]
    have H' := st₃.rpL g₂.gd H
    rw [← e1] at H'
    exact sort_match hnd hp (by simpa using hsrt) H'

end Mine
end

section
open PySem PySem.W PyProof.Rows PySem.SeqAt
set_option maxRecDepth 100000
namespace Mine

section
variable {prog : Program} {w : World} {A : Around} {R : GenEnd} {Y : Protocol} {n : Nat} {s₀ : Shared} {c : Code} {fs : List PySem.Frame} {s : Shared} {env : Env}
  {K : Flow → Sem PySem.Fin} {H : Value → Sem PySem.Fin} {gd : Bool → Bool} {lv : List Value → List Value}

set_option tactic.hygienic false
theorem seg_plain {st : Stmt} (h : wpAny (model prog w) (A.over c fs) (exec st env) (fun f s' => Seg (model prog w) A R Y n s₀ c (K f) fs s') noE s) :
    Seg (model prog w) A R Y n s₀ c ((exec st env).wrap K H gd lv) fs s := seg_wrap (wpAny_mono h (fun zz zz q => q) fun zz zz e => e.elim)

theorem seg_If {test : Expr} {body orelse : List Stmt} {pos : Pos}
    (h : wpAny (model prog w) (A.over c fs) (isTrue test env (eval test env)) (fun b s' => Seg (model prog w) A R Y n s₀ c ((execs (if b then body else orelse) env).wrap K H gd lv) fs s') noE s) :
    Seg (model prog w) A R Y n s₀ c ((exec (.If test body orelse pos) env).wrap K H gd lv) fs s := by
  rw [arm_exec_If]
  show Seg _ A R Y n s₀ c (.at pos fun zz => (isTrue test env (eval test env) >>= fun b => if b = true then execs body env else execs orelse env).wrap K H gd lv) fs s
  refine seg_at ?_
  rw [Sem.bind_eq_wrap', Sem.wrap_wrap]
  refine seg_wrap (wpAny_mono h (fun b s' hb => ?_) fun zz zz e => e.elim)
  cases b
  · exact hb
  · exact hb

noncomputable def forK (target : Expr) (it : Value) (body orelse : List Stmt) (env : Env) : Flow → Sem PySem.Fin
  | .next | .cont => .pure (.again (.forLoop target it body orelse env))
  | .brk => .pure (.done .next)
  | .ret v => .pure (.done (.ret v))
noncomputable def forH (env : Env) (e : Value) : Sem PySem.Fin := (do noteFrame e env; theTreesLotGoes e : Sem Unit).wrap (fun zz => .raise e) .raise id id

theorem seg_forLoop {target : Expr} {it : Value} {body orelse : List Stmt}
    (h : wpAny (model prog w) (A.over (.forLoop target it body orelse env) fs) (pyNext it) (fun r s₁ => match r with
      | none => Seg (model prog w) A R Y n s₀ (.forLoop target it body orelse env) (.pure (.again (.block orelse env))) fs s₁
      | some v => wpAny (model prog w) (A.over (.forLoop target it body orelse env) fs) (letOwnedTupleGo target it v) (fun zz s₂ =>
          wpAny (model prog w) (A.over (.forLoop target it body orelse env) fs) (assign target env v) (fun zz s₃ =>
            Seg (model prog w) A R Y n s₀ (.forLoop target it body orelse env) ((execs body env).wrap (forK target it body orelse env) (forH env) id id) fs s₃) noE s₂) noE s₁) noE s) :
    Seg (model prog w) A R Y n s₀ (.forLoop target it body orelse env) ((model prog w).den (.forLoop target it body orelse env)) fs s := by
  show Seg _ A R Y n s₀ _ ((forTurn target it body orelse env).onRaise (fun x => do noteFrame x env; theTreesLotGoes x)) fs s
  unfold forTurn
  rw [Sem.onRaise_eq_wrap]
  show Seg _ A R Y n s₀ _ (.at target.pos fun zz => ((pyNext it).onRaise (fun zz => standAt { target.pos with line := 0 }) >>= fun r => _).wrap _ _ _ _) fs s
  refine seg_at ?_
  rw [Sem.bind_eq_wrap', Sem.wrap_wrap]
  refine seg_wrap (wpAny_onRaise (wpAny_mono h (fun r s₁ h₁ => ?_) fun zz zz e => e.elim))
  cases r with
  | none => exact h₁
  | some v =>
    dsimp only at h₁ ⊢
    rw [Sem.bind_eq_wrap', Sem.wrap_wrap]
    refine seg_wrap (wpAny_mono h₁ (fun zz s₂ h₂ => ?_) fun zz zz e => e.elim)
    rw [Sem.bind_eq_wrap', Sem.wrap_wrap]
    refine seg_wrap (wpAny_mono h₂ (fun zz s₃ h₃ => ?_) fun zz zz e => e.elim)
    rw [Sem.bind_eq_wrap', Sem.wrap_wrap]
    rw [Sem.wrap_congr (execs body env) _ _ (K' := forK target it body orelse env) (H' := forH env) (fun f => by cases f <;> rfl) (fun e => by
      first
        | exact Sem.bind_eq_wrap _ _
        | (show (do noteFrame e env; theTreesLotGoes e : Sem Unit).bind (fun zz => .raise e) = _; rw [Sem.bind_eq_wrap]; rfl))]
    exact h₃

noncomputable def backK (env : Env) (K : Flow → Sem PySem.Fin) (H : Value → Sem PySem.Fin) (gd : Bool → Bool) (lv : List Value → List Value) (r : Result) : Sem PySem.Fin :=
  ((match r with | .ok f => (.pure f : Sem Flow) | .error e => .raise e).onRaise fun (x : Value) => do
    if (← field x 1) == Value.none then unsupported "frame.own-activation:exception-without-traceback"
    setFlight x env.frame).wrap K H gd lv

theorem seg_For {target iter : Expr} {body orelse : List Stmt} {pos : Pos} (hpl : plainE iter = true)
    (h : wpAny (model prog w) (A.over c fs) (eval iter env) (fun xv s₁ => wpAny (model prog w) (A.over c fs) (pyIter xv) (fun it s₂ =>
      ∀ p, Seg (model prog w) A R Y n s₀ (.forLoop target it body orelse env) ((model prog w).den (.forLoop target it body orelse env)) (.ret (backK env K H gd lv) none (gd false) (lv []) c p [] :: fs) s₂) noE s₁) noE s) :
    Seg (model prog w) A R Y n s₀ c ((exec (.For target iter body orelse pos) env).wrap K H gd lv) fs s := by
  rw [arm_exec_For]
  show Seg _ A R Y n s₀ c (.at pos fun zz => (eval iter env >>= fun x => foldedSetIterable iter env x >>= fun x => _).wrap K H gd lv) fs s
  refine seg_at ?_
  rw [Sem.bind_eq_wrap', Sem.wrap_wrap]
  refine seg_wrap (wpAny_mono h (fun xv s₁ h₁ => ?_) fun zz zz e => e.elim)
  rw [folded_plain hpl]
  show Seg _ A R Y n s₀ c (.at iter.pos fun zz => (holding [xv] (pyIter xv) >>= fun it => runOwn (.forLoop target it body orelse env) env).wrap K H gd lv) fs s₁
  refine seg_at ?_
  rw [Sem.bind_eq_wrap', Sem.wrap_wrap]
  refine seg_wrap (wpAny_holding (wpAny_mono h₁ (fun it s₂ h₂ => ?_) fun zz zz e => e.elim))
  exact seg_call h₂

theorem seg_back_next {K : Flow → Sem PySem.Fin} {p₁ : Pos} {c₁ : Code} {h : Option Value} {g : Bool} {l : List Value} {kp} {c' : Code} (hk : Seg (model prog w) A R Y n s₀ c (K .next) fs s) :
    Seg (model prog w) A R Y n s₀ c' (.pure (.done .next)) (.ret (backK env K H gd lv) h g l c p₁ kp :: fs) s :=
  seg_leaf (r := .ok .next) hk

theorem seg_block_nil {c' : Code} (h : Seg (model prog w) A R Y n s₀ (.block [] env) (.pure (.done .next)) fs s) :
    Seg (model prog w) A R Y n s₀ c' (.pure (.again (.block [] env))) fs s := by
  refine seg_again rfl ?_
  show Seg _ A R Y n s₀ (.block [] env) (denote table (.block [] env)) fs s
  exact h

end
end Mine
end

section
open PySem PySem.W PyProof.Rows PySem.SeqAt
set_option maxRecDepth 100000
namespace Mine

noncomputable def flatD : D → Bool
  | .int _ => true
  | .bool _ => true
  | .str _ => true
  | _ => false

noncomputable def gloop (body : Sig → Option (List D × Sig)) (x y : Str) : Nat → List Nat → Sig → Option (List D × Sig)
  | _, [], σ => some ([], σ)
  | i, ch :: r, σ => (body (Sig.set (Sig.set σ x (.int i)) y (.str ⟨#[ch]⟩))).bind fun q => (gloop body x y (i + 1) r q.2).map fun q' => (q.1 ++ q'.1, q'.2)

set_option tactic.hygienic false
mutual
noncomputable def gx (K : Know) (top : Bool) : Nat → Scope → Sig → Stmt → Option (List D × Sig)
  | 0, _, _, _ => none
  | n + 1, sc, σ, st => match st with
    | .If test body orelse _ => (tr K n sc σ test).bind fun b => gxs K top n sc σ (if b then body else orelse)
    | .For (.Tuple [.Name x _, .Name y _] _ _) (.Call (.Name f _) [e] [] _) body [] _ =>
        if top && f == "enumerate" && isGlob sc f && stOk sc x && stOk sc y then (ev K n sc σ e).bind fun d => match d with
          | .str s => gloop (fun σ => gxs K false n sc σ body) x y 0 s.cps.toList σ
          | _ => none
        else none
    | .Expr (.Yield (some e) _) _ => (ev K n sc σ e).bind fun d => match d with
        | .tup [.int i, .str u] => some ([.tup [.int i, .str u]], σ)
        | _ => none
    | .Assign [.Name x _] value _ => if stOk sc x then (ev K n sc σ value).bind fun d => if flatD d then some ([], Sig.set σ x d) else none else none
    | _ => none
noncomputable def gxs (K : Know) (top : Bool) : Nat → Scope → Sig → List Stmt → Option (List D × Sig)
  | 0, _, _, _ => none
  | _ + 1, _, σ, [] => some ([], σ)
  | n + 1, sc, σ, st :: rest => (gx K top n sc σ st).bind fun q => (gxs K top n sc q.2 rest).map fun q' => (q.1 ++ q'.1, q'.2)
end

variable {c : Cx} {A : Around} {s : Shared} {T : Gh} {X : Addr → Prop} {env : Env} {sc : Scope} {σ : Sig}

noncomputable def noGh : Gh := fun zz => none
noncomputable def noX : Addr → Prop := fun zz => False
theorem Ok.none (g : Ok c s T) : Ok c s noGh := ⟨g.gd, g.pos, fun t x e => by cases e⟩
noncomputable def FlatS (σ : Sig) : Prop := ∀ x d, σ x = some d → flatD d = true
theorem Rp.flat {h h' : Heap} {T' : Gh} {X' : Addr → Prop} {d : D} {v : Value} (hf : flatD d = true) (H : Rp h T X d v) : Rp h' T' X' d v := by
  cases d <;> simp only [flatD] at hf <;> first | (cases hf; done) | (simp only [Rp] at H ⊢; exact H)
theorem FrameOK.flat {h : Heap} {T' : Gh} {X' : Addr → Prop} (hf : FlatS σ) (F : FrameOK h T env sc σ X) : FrameOK h T' env sc σ X' :=
  ⟨F.eok, F.ns, F.cells, fun x d e => let ⟨v, h1, h2⟩ := F.has x d e; ⟨v, h1, h2.flat (hf x d e)⟩⟩
theorem FlatS.set {x : Str} {d : D} (h : FlatS σ) (hd : flatD d = true) : FlatS (Sig.set σ x d) := fun y e q => by
  unfold Sig.set at q
  split at q
  · cases q; exact hd
  · exact h y e q

theorem StepG.anyT {s' : Shared} {T' : Gh} {W : Addr → Prop} {gi : Option Nat} (g : Ok c s T) (x : StepG c W gi s T s' T') (T₁ : Gh) : StepG c W gi s T₁ s' T₁ :=
  ⟨x.keep, x.tk, fun zz zz e => e, fun g₁ => ⟨(x.ok g).gd, Nat.lt_of_lt_of_le g₁.pos x.tk, fun t z e => ⟨Nat.lt_of_lt_of_le (g₁.tv t z e).1 x.tk, (g₁.tv t z e).2⟩⟩, x.os, x.gsz, x.gold, x.gnew⟩

noncomputable def GW (U B : Addr → Prop) (s₀ : Shared) (b : Addr) : Prop := ¬ U b ∧ B b ∧ ∀ o, s₀.heap.get? b = some o → ∀ is n, o.data ≠ .seq is n
noncomputable def Rel (c : Cx) (U B : Addr → Prop) (gi : Nat) (s₀ s : Shared) : Prop := ∀ T, Ok c s₀ T → StepG c (GW U B s₀) (some gi) s₀ T s T

theorem Rel.refl {U B : Addr → Prop} {gi : Nat} : Rel c U B gi s s := fun T zz => StepG.refl
theorem Rel.step {U B : Addr → Prop} {gi : Nat} {s₀ s' : Shared} {T' : Gh} (x : Rel c U B gi s₀ s) (g : Ok c s T) (st : Step c s T s' T') : Rel c U B gi s₀ s' := fun T₁ g₁ => (x T₁ g₁).trans (StepG.anyT g st.g T₁)
theorem Rel.mut {U B : Addr → Prop} {gi : Nat} {s₀ s' : Shared} {T' : Gh} {W : Addr → Prop} (x : Rel c U B gi s₀ s) (g₀ : Ok c s₀ T) (g : Ok c s T') (st : StepG c W (some gi) s T' s' T') (hU : ∀ b, W b → ¬ U b ∧ B b ∧ ∃ o, s.heap.get? b = some o ∧ ∀ is n, o.data ≠ .seq is n) : Rel c U B gi s₀ s' := fun T₁ g₁ => by
  refine (x T₁ g₁).trans ((StepG.anyT g st T₁).mono fun b w => .inl ?_)
  obtain ⟨h1, h2, o, e, hn⟩ := hU b w
  refine ⟨h1, h2, fun o' e' is n q => ?_⟩
  have := (x T₁ g₁).keep b o' (fun hp => by
    obtain ⟨ps, hP, _⟩ := g.gd.tab
    obtain ⟨ps₀, hP₀, _⟩ := g₀.gd.tab
    rw [hp, hP₀] at e'; cases e'; cases q) (fun w' => w'.2.2 o' e' is n q) e'
  rw [e] at this; cases this
  exact hn is n q

end Mine
end

section
open PySem PySem.W PyProof.Rows PySem.SeqAt
set_option maxRecDepth 100000
namespace Mine
variable {c : Cx} {A : Around} {s : Shared} {T : Gh} {X : Addr → Prop} {env : Env} {sc : Scope} {σ : Sig}

structure GS (c : Cx) (U B : Addr → Prop) (env : Env) (sc : Scope) (σ : Sig) (s : Shared) : Prop where
  ok : Ok c s noGh
  fr : FrameOK s.heap noGh env sc σ noX
  flat : FlatS σ
  loc : ¬ U env.locals ∧ B env.locals
  ua : ∀ b, U b → b ≠ c.P ∧ ∃ o, s.heap.get? b = some o
  old : ∀ b, ¬ B b → U b ∨ ∃ o, s.heap.get? b = some o
structure Later (c : Cx) (U : Addr → Prop) (s s' : Shared) : Prop where
  ok : Ok c s' noGh
  keep : ∀ b o, ¬ U b → b ≠ c.P → s.heap.get? b = some o → s'.heap.get? b = some o
  ua : ∀ b, U b → b ≠ c.P ∧ ∃ o, s'.heap.get? b = some o

set_option tactic.hygienic false
theorem GS.later {U B : Addr → Prop} {s' : Shared} (hc : env.cells = []) (x : GS c U B env sc σ s) (l : Later c U s s') : GS c U B env sc σ s' := by
  have hP := x.fr.notP x.ok.gd env.locals (.inl rfl)
  have ns : ∀ m, s.heap.Ns env.locals m → s'.heap.Ns env.locals m := fun m h => by
    obtain ⟨o, es, ep, e, r⟩ := h
    exact ⟨o, es, ep, l.keep _ _ x.loc.1 hP e, r⟩
  refine ⟨l.ok, ⟨x.fr.eok, let ⟨m, h⟩ := x.fr.ns; ⟨m, ns m h⟩, fun f a e => (by rw [hc] at e; cases e), fun y d e => ?_⟩, x.flat, x.loc, l.ua, fun b hb => ?_⟩
  · obtain ⟨v, h1, h2⟩ := x.fr.has y d e
    refine ⟨v, ?_, h2.flat (x.flat y d e)⟩
    rcases h1 with ⟨q1, m, q2, q3⟩ | ⟨q1, a, q2, q3⟩
    · exact .inl ⟨q1, m, ns m q2, q3⟩
    · rw [hc] at q2; cases q2
  · rcases x.old b hb with h | ⟨o, e⟩
    · exact .inl h
    · by_cases hu : U b
      · exact .inl hu
      · by_cases hp : b = c.P
        · obtain ⟨ps, hP, _⟩ := l.ok.gd.tab
          exact .inr ⟨_, by rw [hp]; exact hP⟩
        · exact .inr ⟨o, l.keep b o hu hp e⟩
theorem GS.step {U B : Addr → Prop} {s' : Shared} {T' : Gh} (x : GS c U B env sc σ s) (st : Step c s noGh s' T') : GS c U B env sc σ s' := by
  refine ⟨(st.ok x.ok).none, (x.fr.step x.ok.gd st).flat x.flat, x.flat, x.loc, fun b hb => ?_, fun b hb => ?_⟩
  · obtain ⟨hp, o, e⟩ := x.ua b hb; exact ⟨hp, o, st.keep b o hp e⟩
  · rcases x.old b hb with h | ⟨o, e⟩
    · exact .inl h
    · by_cases hp : b = c.P
      · obtain ⟨ps, hP, _⟩ := (st.ok x.ok).gd.tab
        exact .inr ⟨_, by rw [hp]; exact hP⟩
      · exact .inr ⟨o, st.keep b o hp e⟩
theorem GS.own {U B W : Addr → Prop} {gi : Option Nat} {s' : Shared} {σ' : Sig} {T₁ : Gh} (x : GS c U B env sc σ s) (st : StepG c W gi s noGh s' T₁) (hW : ∀ b, W b → ¬ U b ∧ (B b ∨ ∃ o, s'.heap.get? b = some o)) (F' : FrameOK s'.heap T₁ env sc σ' noX) (hf : FlatS σ') : GS c U B env sc σ' s' := by
  refine ⟨(st.ok x.ok).none, F'.flat hf, hf, x.loc, fun b hb => ?_, fun b hb => ?_⟩
  · obtain ⟨hp, o, e⟩ := x.ua b hb
    exact ⟨hp, o, st.keep b o hp (fun w => (hW b w).1 hb) e⟩
  · rcases x.old b hb with h | ⟨o, e⟩
    · exact .inl h
    · by_cases w : W b
      · exact .inr ((hW b w).2.resolve_left hb)
      · by_cases hp : b = c.P
        · obtain ⟨ps, hP, _⟩ := (st.ok x.ok).gd.tab
          exact .inr ⟨_, by rw [hp]; exact hP⟩
        · exact .inr ⟨o, st.keep b o hp w e⟩

noncomputable def Item (U : Addr → Prop) (all : List D) (n : Nat) (v : Value) (s' : Shared) : Prop :=
  ∃ i u a t₁ t₂, all[all.length - 1 - n]? = some (.tup [.int i, .str u]) ∧ v = .ref a ∧ PlainTup s'.heap a #[.int i t₁, .str u t₂] ∧ ¬ U a ∧ u.length ≤ big
noncomputable def GY (c : Cx) (U B : Addr → Prop) (gi : Nat) (all : List D) : Protocol := fun n s₀ v s' kap => Rel c U B gi s₀ s' ∧ Item U all n v s' ∧ ∀ s'', Later c U s' s'' → kap (.send .none) s''
noncomputable def GP (c : Cx) (U B : Addr → Prop) (gi : Nat) : Nat → Shared → Shared → Prop := fun n s₀ s₁ => n = 0 ∧ Rel c U B gi s₀ s₁

theorem Room.over {C : Code} {fs : List PySem.Frame} {k : Nat} {f : Expr} {it : Value} {b o : List Stmt} {env : Env} {K : Result → Sem PySem.Fin} {g : Bool} {l : List Value} {p : Pos} (h : Room (A.over C fs) k) :
    Room (A.over (.forLoop f it b o env) (.ret K none g l C p [] :: fs)) k := by
  refine ⟨?_, ?_, ?_⟩
  · have := h.1
    exact this
  · have := h.2
    simp only [Around.over, List.map_cons, Frame.where_, frameCount_cons] at this ⊢
    have e : Code.weight (.forLoop f it b o env) = 0 := rfl
    rw [e]; omega
  · have := h.3
    simp only [Around.over, List.map_cons, Frame.where_, unitsOf_cons] at this ⊢
    have e : Code.cUnits (.forLoop f it b o env) = 0 := rfl
    rw [e]; omega

end Mine
end

section
open PySem PySem.W PyProof.Rows PySem.SeqAt
set_option maxRecDepth 100000
namespace Mine
variable {c : Cx} {A : Around} {s : Shared} {T : Gh} {X : Addr → Prop} {env : Env} {sc : Scope} {σ : Sig}

noncomputable abbrev SG (c : Cx) (A : Around) (U B : Addr → Prop) (gi : Nat) (all : List D) (n : Nat) (s₀ : Shared) (C : Code) (t : Sem PySem.Fin) (fs : List PySem.Frame) (s : Shared) : Prop :=
  Seg (model c.prog c.w) A (fun n s₀ r s₁ => r = .ok (.ret .none) ∧ GP c U B gi n s₀ s₁) (GY c U B gi all) n s₀ C t fs s

noncomputable def Kp (c : Cx) (U : Addr → Prop) (env : Env) (h h' : Heap) : Prop := ∀ b o, b ≠ c.P → b ≠ env.locals → ¬ U b → h.get? b = some o → h'.get? b = some o
set_option tactic.hygienic false
theorem Step.kp {s' : Shared} {T' : Gh} {U : Addr → Prop} (st : Step c s T s' T') : Kp c U env s.heap s'.heap := fun b o hp zz zz e => st.keep b o hp e
theorem Later.kp {s' : Shared} {U : Addr → Prop} (l : Later c U s s') : Kp c U env s.heap s'.heap := fun b o hp zz hu e => l.keep b o hu hp e

structure GEnv (c : Cx) (env : Env) (sc : Scope) : Prop where
  cells : env.cells = []
  loc : ∀ f, sc.names.lookup f ≠ some .cell
  co : env.scope.isCoroutine = false
  lam : LamOK c env sc
  kind : env.scope.kind = .function

noncomputable def GxS (c : Cx) (A : Around) (U B : Addr → Prop) (gi : Nat) (all : List D) (env : Env) (sc : Scope) (k : Nat) (top : Bool) (tree : (Flow → Sem PySem.Fin) → (Value → Sem PySem.Fin) → (Bool → Bool) → (List Value → List Value) → Sem PySem.Fin) (σ : Sig) (ys : List D) (σ' : Sig) : Prop :=
  ∀ (C : Code) (fs : List PySem.Frame) (K : Flow → Sem PySem.Fin) (H : Value → Sem PySem.Fin) (gd : Bool → Bool) (lv : List Value → List Value) (m : Nat) (pre rest : List D) (s₀ s : Shared) (Q : Heap → Prop),
    Room (A.over C fs) k → splitAtGen fs = none → gd false = false → fs.any Frame.guarded = false → all = pre ++ ys ++ rest → rest.length = m → Ok c s₀ noGh → Rel c U B gi s₀ s → GS c U B env sc σ s →
    (∀ h h', Q h → Kp c U env h h' → Q h') → (top = true → ∀ h h', Q h → Q h') → Q s.heap →
    (∀ s₀' s', Ok c s₀' noGh → Rel c U B gi s₀' s' → GS c U B env sc σ' s' → Q s'.heap → SG c A U B gi all m s₀' C (K .next) fs s') →
    SG c A U B gi all (m + ys.length) s₀ C (tree K H gd lv) fs s

theorem GS.al {U B : Addr → Prop} : Al c s.heap noX := fun b h => h.elim
theorem GS.bound {U B : Addr → Prop} {gi : Nat} {s₀ s' : Shared} {σ' : Sig} {T' : Gh} (G : GEnv c env sc) (g₀ : Ok c s₀ noGh) (x : GS c U B env sc σ s) (r : Rel c U B gi s₀ s) (st : StepG c (EnvW env sc) none s noGh s' T') (F' : FrameOK s'.heap T' env sc σ' noX) (hf : FlatS σ') :
    Rel c U B gi s₀ s' ∧ GS c U B env sc σ' s' ∧ Kp c U env s.heap s'.heap := by
  have hW : ∀ b, EnvW env sc b → b = env.locals := fun b w => EnvW.only G.loc w
  refine ⟨?_, ?_, ?_⟩
  · refine r.mut g₀ x.ok ((StepG.anyT x.ok st noGh).gi) fun b w => ?_
    rw [hW b w]
    obtain ⟨o, e, hn⟩ := x.fr.notSeq env.locals (.inl rfl)
    exact ⟨x.loc.1, x.loc.2, o, e, hn⟩
  · refine x.own st (fun b w => ?_) F' hf
    rw [hW b w]
    obtain ⟨o, e, hn⟩ := F'.notSeq env.locals (.inl rfl)
    exact ⟨x.loc.1, .inr ⟨o, e⟩⟩
  · intro b o hp hl _ e
    exact st.keep b o hp (fun w => hl (hW b w)) e

theorem gx_yield {Kn : Know} {k n : Nat} {top : Bool} {U B : Addr → Prop} {gi : Nat} {all : List D} (Bl : Blt c) (KO : KnowOK c Kn k) (G : GEnv c env sc) {e : Expr} {yp p : Pos} {i : Int} {u : Str} (h : ev Kn n sc σ e = some (.tup [.int i, .str u])) :
    GxS c A U B gi all env sc k top (fun K H gd lv => (exec (.Expr (.Yield (some e) yp) p) env).wrap K H gd lv) σ [.tup [.int i, .str u]] σ := by
  intro C fs K H gd lv m pre rest s₀ s Q hroom hsp hgd hfg hall hm g₀ rel gs hQ hQt q cont
  have E := (ev_tr Bl KO (sort_ok Bl k) n).1 (A.over C fs) env sc σ U hroom G.lam
  show SG c A U B gi all (m + 1) s₀ C (Sem.wrap K H gd lv (exec (.Expr (.Yield (some e) yp) p) env)) fs s
  refine seg_Expr_Yield hsp hgd hfg (wpAny_mono (E.ok _ _ _ _ h gs.ok gs.ua (gs.fr.flat gs.flat)) (fun v s' ⟨T', st, r⟩ => ?_) fun zz zz x => x.elim) G.co (by unfold interactive; rw [G.kind]; rfl)
  intro kap hk
  have gs' := gs.step st
  refine ⟨rel.step gs.ok st, ?_, fun s'' l => hk .none s'' ?_⟩
  · simp only [Rp] at r
    obtain ⟨_, a, vs, rfl, ha, hpt, hvs⟩ := r
    simp only [RpL] at hvs
    obtain ⟨v1, _, rfl, h1, v2, _, rfl, h2, rfl⟩ := hvs
    simp only [Rp] at h1 h2
    obtain ⟨t1, rfl⟩ := h1
    obtain ⟨hu, t2, rfl⟩ := h2
    refine ⟨i, u, a, t1, t2, ?_, rfl, by simpa using hpt, ha, hu⟩
    rw [hall]
    have : (pre ++ [D.tup [.int i, .str u]] ++ rest).length - 1 - m = pre.length := by simp; omega
    rw [this]
    simp
  · exact cont s'' s'' l.ok Rel.refl (gs'.later G.cells l) (hQ _ _ (hQ _ _ q st.kp) l.kp)

theorem gx_assign {Kn : Know} {k n : Nat} {top : Bool} {U B : Addr → Prop} {gi : Nat} {all : List D} (Bl : Blt c) (KO : KnowOK c Kn k) (G : GEnv c env sc) {value : Expr} {x : Str} {px p : Pos} {d : D} (hx : stOk sc x = true) (h : ev Kn n sc σ value = some d) (hd : flatD d = true) :
    GxS c A U B gi all env sc k top (fun K H gd lv => (exec (.Assign [.Name x px] value p) env).wrap K H gd lv) σ [] (Sig.set σ x d) := by
  intro C fs K H gd lv m pre rest s₀ s Q hroom hsp hgd hfg hall hm g₀ rel gs hQ hQt q cont
  have A1 := assign_sound (σ' := Sig.set σ x d) (t := .Name x px) (pos := p) Bl KO (sort_ok Bl k) hroom G.lam gs.ok (GS.al (U := U) (B := B)) gs.fr rfl h (by simp only [bindT, hx, if_true])
  show SG c A U B gi all m s₀ C (Sem.wrap K H gd lv (exec (.Assign [.Name x px] value p) env)) fs s
  refine seg_plain (wpAny_mono A1 (fun f s' ⟨T', st, hf, F'⟩ => ?_) fun zz zz e => e)
  subst hf
  obtain ⟨h1, h2, h3⟩ := gs.bound G g₀ rel st F' (gs.flat.set hd)
  exact cont s₀ s' g₀ h1 h2 (hQ _ _ q h3)

theorem gx_if {Kn : Know} {k n : Nat} {top : Bool} {U B : Addr → Prop} {gi : Nat} {all : List D} (Bl : Blt c) (KO : KnowOK c Kn k) (G : GEnv c env sc) {test : Expr} {body orelse : List Stmt} {p : Pos} {b : Bool} {ys : List D} {σ' : Sig} (h : tr Kn n sc σ test = some b)
    (hb : GxS c A U B gi all env sc k top (fun K H gd lv => (execs (if b then body else orelse) env).wrap K H gd lv) σ ys σ') :
    GxS c A U B gi all env sc k top (fun K H gd lv => (exec (.If test body orelse p) env).wrap K H gd lv) σ ys σ' := by
  intro C fs K H gd lv m pre rest s₀ s Q hroom hsp hgd hfg hall hm g₀ rel gs hQ hQt q cont
  have TR := (ev_tr Bl KO (sort_ok Bl k) n).2 (A.over C fs) env sc σ noX hroom G.lam
  show SG c A U B gi all (m + ys.length) s₀ C (Sem.wrap K H gd lv (exec (.If test body orelse p) env)) fs s
  refine seg_If (wpAny_mono (TR _ _ _ _ h gs.ok (GS.al (U := U) (B := B)) gs.fr) (fun b' s' ⟨e, T', st⟩ => ?_) fun zz zz e => e)
  subst e
  exact hb C fs K H gd lv m pre rest s₀ s' Q hroom hsp hgd hfg hall hm g₀ (rel.step gs.ok st) (gs.step st) hQ hQt (hQ _ _ q st.kp) cont

theorem gx_nil {k : Nat} {top : Bool} {U B : Addr → Prop} {gi : Nat} {all : List D} : GxS c A U B gi all env sc k top (fun K H gd lv => (execs [] env).wrap K H gd lv) σ [] σ := by
  intro C fs K H gd lv m pre rest s₀ s Q hroom hsp hgd hfg hall hm g₀ rel gs hQ hQt q cont
  exact cont s₀ s g₀ rel gs q
theorem gx_cons {k : Nat} {top : Bool} {U B : Addr → Prop} {gi : Nat} {all : List D} {st : Stmt} {rs : List Stmt} {ys ys' : List D} {σ₁ σ' : Sig}
    (h1 : GxS c A U B gi all env sc k top (fun K H gd lv => (exec st env).wrap K H gd lv) σ ys σ₁) (h2 : GxS c A U B gi all env sc k top (fun K H gd lv => (execs rs env).wrap K H gd lv) σ₁ ys' σ') :
    GxS c A U B gi all env sc k top (fun K H gd lv => (execs (st :: rs) env).wrap K H gd lv) σ (ys ++ ys') σ' := by
  intro C fs K H gd lv m pre rest s₀ s Q hroom hsp hgd hfg hall hm g₀ rel gs hQ hQt q cont
  have e : m + (ys ++ ys').length = (m + ys'.length) + ys.length := by simp; omega
  rw [e]
  show SG c A U B gi all _ s₀ C (Sem.wrap K H gd lv (execs (st :: rs) env)) fs s
  refine seg_execs_cons ?_
  refine h1 C fs _ H gd lv (m + ys'.length) pre (ys' ++ rest) s₀ s Q hroom hsp hgd hfg (by rw [hall]; simp) (by simp [hm]; omega) g₀ rel gs hQ hQt q fun s₀' s' g₀' rel' gs' q' => ?_
  exact h2 C fs K H gd lv m (pre ++ ys) rest s₀' s' Q hroom hsp hgd hfg (by rw [hall]; simp) hm g₀' rel' gs' hQ hQt q' cont

end Mine
end

section
open PySem PySem.W PyProof.Rows PySem.SeqAt
set_option maxRecDepth 100000
namespace Mine
variable {c : Cx} {A : Around} {s : Shared} {T : Gh} {X : Addr → Prop} {env : Env} {sc : Scope} {σ : Sig}

set_option tactic.hygienic false
theorem Gd.extW {h h' : Heap} {W : Addr → Prop} (g : Gd c h) (H : ∀ d, W d → ∃ o, h.get? d = some o ∧ Harm c d o) (hk : ∀ b o', ¬ W b → h.get? b = some o' → h'.get? b = some o') : Gd c h' := by
  have ns : ∀ a m, a ≤ 3 → h.Ns a m → h'.Ns a m := fun a m ha x => by
    obtain ⟨o', es, ep, e', hd, r⟩ := x
    refine ⟨o', es, ep, hk a o' (fun w => ?_) e', hd, r⟩
    obtain ⟨o, e, Hm⟩ := H a w
    rw [e'] at e; cases e
    exact absurd (Hm.dict es ep hd) (Nat.not_lt.mpr ha)
  have rec' : ∀ cd q, h.CodeRec cd q → h'.CodeRec cd q := fun cd q x => by
    obtain ⟨a, o', vs, t, rfl, e', hd, r⟩ := x
    refine ⟨a, o', vs, t, rfl, hk a o' (fun w => ?_) e', hd, r⟩
    obtain ⟨o, e, Hm⟩ := H a w
    rw [e'] at e; cases e
    exact (Hm.flds vs hd).2 _ _ r
  obtain ⟨g1, g2, g3, g4, g5, g6, g7, g8, g9⟩ := g
  refine ⟨ns _ _ (Nat.le_refl _) g1, ns _ _ (Nat.zero_le _) g2, ?_, ?_, fun dd hdd => ?_, ?_, ?_, ?_, ?_⟩
  · obtain ⟨mc, q1, q2⟩ := g3; exact ⟨mc, ns _ _ (by show (2:Nat) ≤ 3; omega) q1, q2⟩
  · obtain ⟨mc, q1, q2⟩ := g4; exact ⟨mc, ns _ _ (by show (2:Nat) ≤ 3; omega) q1, q2⟩
  · obtain ⟨a, o', pm, code, doc, q1, q2, q3, q4⟩ := g5 dd hdd
    exact ⟨a, o', pm, code, doc, q1, hk a o' (fun w => by obtain ⟨o, e, Hm⟩ := H a w; rw [q2] at e; cases e; exact Hm.func _ q3) q2, q3, rec' _ _ q4⟩
  · obtain ⟨a, o', fd, q1, q2, q3, q4⟩ := g6
    exact ⟨a, o', fd, q1, hk a o' (fun w => by obtain ⟨o, e, Hm⟩ := H a w; rw [q2] at e; cases e; exact Hm.func _ q3) q2, q3, q4⟩
  · obtain ⟨o', vs, file, tf, flags, tg, inF, text, tt, e', r0, r1, r2, r⟩ := g7
    refine ⟨o', vs, file, tf, flags, tg, inF, text, tt, hk _ _ (fun w => ?_) e', r0, r1, r2, r⟩
    obtain ⟨o, e, Hm⟩ := H _ w
    rw [e'] at e; cases e
    have := (Hm.flds _ r1).1
    rw [Array.getElem?_eq_none (by omega)] at r2; cases r2
  · obtain ⟨ps, q1, q2⟩ := g8
    refine ⟨ps, hk _ _ (fun w => by obtain ⟨o, e, Hm⟩ := H _ w; exact Hm.notP rfl) q1, q2.imp id ?_⟩
    rintro ⟨c', e', r⟩
    exact ⟨c', e', rec' _ _ r⟩
  · obtain ⟨bm, ob, q1, q2, q3, q4, q5, q6⟩ := g9
    exact ⟨bm, ob, q1, q2, hk bm ob (fun w => by obtain ⟨o, e, Hm⟩ := H bm w; rw [q3] at e; cases e; exact Hm.plain q6) q3, q4, q5, q6⟩
theorem StepG.mutW {W : Addr → Prop} {gi : Option Nat} {h' : Heap} {t : Nat} (H : ∀ d, W d → ∃ o, s.heap.get? d = some o ∧ Harm c d o) (hk : ∀ b o', ¬ W b → s.heap.get? b = some o' → h'.get? b = some o') (ht : s.toks ≤ t) :
    StepG c W gi s T { s with heap := h', toks := t } T :=
  ⟨fun b o zz hw e => hk b o hw e, ht, fun zz zz e => e, fun g => ⟨g.gd.extW H hk, Nat.lt_of_lt_of_le g.pos ht, fun t' x e => ⟨Nat.lt_of_lt_of_le (g.tv t' x e).1 ht, (g.tv t' x e).2⟩⟩, rfl, Nat.le_refl _, fun zz zz zz => rfl, fun zz zz h zz => noGen h⟩

structure EI (en it : Addr) (ty : String) (x : Str) (t : Tok) (i : Nat) (h : Heap) : Prop where
  en : ∃ old, IsEnum h en it i old
  it : h.IsStrIter it ty x t i
structure EnOK (c : Cx) (U B : Addr → Prop) (env : Env) (en it : Addr) (ty : String) (x : Str) : Prop where
  ne : en ≠ it
  u : ¬ U en ∧ ¬ U it
  b : B en ∧ B it
  p : en ≠ c.P ∧ it ≠ c.P
  l : en ≠ env.locals ∧ it ≠ env.locals
  ty : ty = "str_ascii_iterator" ∨ ty = "str_iterator"

theorem EI.kp {U : Addr → Prop} {B : Addr → Prop} {en it : Addr} {ty : String} {x : Str} {t : Tok} {i : Nat} {h h' : Heap} (O : EnOK c U B env en it ty x) (e : EI en it ty x t i h) (k : Kp c U env h h') : EI en it ty x t i h' := by
  obtain ⟨⟨old, h1⟩, o, h2, r⟩ := e
  exact ⟨⟨old, k _ _ O.p.1 O.l.1 O.u.1 h1⟩, o, k _ _ O.p.2 O.l.2 O.u.2 h2, r⟩

theorem draws_ty {ty : String} {x : Str} {t : Tok} {it : Addr} (hA : A.handled = none) (h : ty = "str_ascii_iterator" ∨ ty = "str_iterator") :
    Draws c.prog c.w A it [it] x.cps.size (fun i v => ∃ ch u, x.cps[i]? = some ch ∧ v = .str ⟨#[ch]⟩ u) (fun i h => h.IsStrIter it ty x t i) := by
  rcases h with rfl | rfl
  · exact Draws.strAscii hA it x t
  · exact Draws.strWide hA it x t

end Mine
end

section
open PySem PySem.W PyProof.Rows PySem.SeqAt
set_option maxRecDepth 100000
namespace Mine
variable {c : Cx} {A : Around} {s : Shared} {T : Gh} {X : Addr → Prop} {env : Env} {sc : Scope} {σ : Sig}

set_option tactic.hygienic false
theorem EI.harm {U B : Addr → Prop} {en it : Addr} {ty : String} {x : Str} {t : Tok} {i : Nat} {h : Heap} (O : EnOK c U B env en it ty x) (e : EI en it ty x t i h) : ∀ d, (d = en ∨ d = it) → ∃ o, h.get? d = some o ∧ Harm c d o ∧ ∀ is n, o.data ≠ .seq is n := by
  obtain ⟨⟨old, h1⟩, o, h2, hc, hd⟩ := e
  rintro d (rfl | rfl)
  · exact ⟨_, h1, Harm.fl O.p.1 rfl (by simp) (by intro q t; simp), by simp⟩
  · exact ⟨o, h2, Harm.fl O.p.2 hd (by simp) (by intro q t; simp), by rw [hd]; simp⟩

theorem gloop_sound {k : Nat} {U B : Addr → Prop} {gi : Nat} {all : List D} {bd : Sig → Option (List D × Sig)} {body : List Stmt} (G : GEnv c env sc)
    (Hb : ∀ σ ys σ', bd σ = some (ys, σ') → GxS c A U B gi all env sc k false (fun K H gd lv => (execs body env).wrap K H gd lv) σ ys σ') {en it : Addr} {ty : String} {tx : Str} {t : Tok} (O : EnOK c U B env en it ty tx)
    {x y : Str} {px py tp : Pos} {kk : Nat} (hx : stOk sc x = true) (hy : stOk sc y = true) :
    ∀ (chs : List Nat) (i : Nat) (σ : Sig) (ys : List D) (σ' : Sig), gloop bd x y i chs σ = some (ys, σ') → tx.cps.toList.drop i = chs → i ≤ tx.cps.size →
      ∀ (C : Code) (fs : List PySem.Frame) (K : Flow → Sem PySem.Fin) (H : Value → Sem PySem.Fin) (gd : Bool → Bool) (lv : List Value → List Value) (m : Nat) (pre rest : List D) (s₀ s : Shared) (Q : Heap → Prop) (p : Pos),
        Room (A.over C fs) k → splitAtGen fs = none → gd false = false → fs.any Frame.guarded = false → all = pre ++ ys ++ rest → rest.length = m → Ok c s₀ noGh → Rel c U B gi s₀ s → GS c U B env sc σ s →
        (∀ h h', Q h → Kp c U env h h' → Q h') → (∀ h h', Q h → (∀ b o, b ≠ en → b ≠ it → h.get? b = some o → h'.get? b = some o) → Q h') → Q s.heap → EI en it ty tx t i s.heap →
        (∀ s₀' s', Ok c s₀' noGh → Rel c U B gi s₀' s' → GS c U B env sc σ' s' → Q s'.heap → SG c A U B gi all m s₀' C (K .next) fs s') →
        SG c A U B gi all (m + ys.length) s₀ (.forLoop (.Tuple [.Name x px, .Name y py] kk tp) (.ref en) body [] env) ((model c.prog c.w).den (.forLoop (.Tuple [.Name x px, .Name y py] kk tp) (.ref en) body [] env))
          (.ret (backK env K H gd lv) none (gd false) (lv []) C p [] :: fs) s := by
  intro chs
  induction chs with
  | nil =>
    intro i σ ys σ' h hch hi C fs K H gd lv m pre rest s₀ s Q p hroom hsp hgd hfg hall hm g₀ rel gs hQ hQe q ei cont
    simp only [gloop] at h; cases h
    have hin : i = tx.cps.size := by
      have := congrArg List.length hch
      simp at this; omega
    subst hin
    have hroom' : Room (A.over (.forLoop (.Tuple [.Name x px, .Name y py] kk tp) (.ref en) body [] env) (.ret (backK env K H gd lv) none (gd false) (lv []) C p [] :: fs)) k := Room.over hroom
    refine seg_forLoop (wpAny_pyNext_enum_endD (draws_ty hroom'.handled O.ty) (ei.en.choose_spec) ei.it fun h' he' => ?_)
    have hW := ei.harm O
    have st : StepG c (fun b => b = it) (some gi) s noGh { s with heap := h' } noGh := by
      obtain ⟨o, e, Hm, _⟩ := hW it (.inr rfl)
      exact StepG.mut e Hm rfl (fun b o' hb e' => he' b o' hb e') (Nat.le_refl _)
    have hoff : ∀ b, EnvA env b → ¬ b = it := by
      rintro b (rfl | ⟨f, hf⟩) q'
      · exact O.l.2 q'.symm
      · rw [G.cells] at hf; cases hf
    have F' : FrameOK h' noGh env sc σ noX := gs.fr.stepG gs.ok.gd st (fun b o w e => by
      subst w
      obtain ⟨o', e', _, hn⟩ := hW b (.inr rfl)
      rw [e] at e'; cases e'; exact .inr hn) hoff
    have gs' := gs.own st (fun b w => by subst w; exact ⟨O.u.2, .inl O.b.2⟩) F' gs.flat
    have rel' := rel.mut g₀ gs.ok st fun b w => by
      subst w
      obtain ⟨o', e', _, hn⟩ := hW b (.inr rfl)
      exact ⟨O.u.2, O.b.2, o', e', hn⟩
    exact seg_block_nil (seg_back_next (c₁ := C) (cont s₀ _ g₀ rel' gs' (hQe _ _ q fun b o zz hb e => he' b o hb e)))
  | cons ch chs ih =>
    intro i σ ys σ' h hch hi C fs K H gd lv m pre rest s₀ s Q p hroom hsp hgd hfg hall hm g₀ rel gs hQ hQe q ei cont
    simp only [gloop] at h
    rw [Option.bind_eq_some_iff] at h
    obtain ⟨⟨ys₁, σ₁⟩, hbd, h⟩ := h
    rw [Option.map_eq_some_iff] at h
    obtain ⟨⟨ys₂, σ₂⟩, hlp, h⟩ := h
    cases h
    have hci : tx.cps[i]? = some ch := by
      have := congrArg (fun l => l[0]?) hch
      simpa [List.getElem?_drop] using this
    have hlt : i < tx.cps.size := by
      by_cases hh : i < tx.cps.size
      · exact hh
      · rw [Array.getElem?_eq_none (by omega)] at hci; cases hci
    have hch' : tx.cps.toList.drop (i + 1) = chs := by
      have := congrArg List.tail hch
      simpa [List.tail_drop] using this
    have hroom' : Room (A.over (.forLoop (.Tuple [.Name x px, .Name y py] kk tp) (.ref en) body [] env) (.ret (backK env K H gd lv) none (gd false) (lv []) C p [] :: fs)) k := Room.over hroom
    have hW := ei.harm O
    have hoff : ∀ b, EnvA env b → ¬ (b = en ∨ b = it) := by
      rintro b (rfl | ⟨f, hf⟩) (q' | q')
      · exact O.l.1 q'.symm
      · exact O.l.2 q'.symm
      · rw [G.cells] at hf; cases hf
      · rw [G.cells] at hf; cases hf
    refine seg_forLoop (leaf (wpAny_pyNext_enum_itemD (draws_ty hroom'.handled O.ty) ei.en.choose_spec ei.it hlt O.ne (by simpa using O.ne) fun v h' tk hP hout hst' hT hsz hk htk => ?_))
    have st₁ : StepG c (fun b => b = en ∨ b = it) (some gi) s noGh { s with heap := h', toks := tk + 1 } noGh :=
      StepG.mutW (fun d w => let ⟨o, e, Hm, _⟩ := hW d w; ⟨o, e, Hm⟩) (fun b o' hb e' => hk b o' (fun q => hb (.inl q)) (fun q => hb (.inr q)) e') htk
    refine wpAny_letOwnedTupleGo_enum hout fun h'' he'' hs'' => ?_
    have hout' : h'.get? en = _ := hout
    have st₂ : StepG c (fun b => b = en ∨ b = it) (some gi) { s with heap := h', toks := tk + 1 } noGh { s with heap := h'', toks := tk + 1 } noGh :=
      StepG.mut (s := { s with heap := h', toks := tk + 1 }) hout' (Harm.fl O.p.1 rfl (by simp) (by intro q t; simp)) (.inl rfl) (fun b o' hb e' => hs''.extBut b o' hb e') (Nat.le_refl _)
    have st := st₁.trans st₂
    have soft : Soft s.heap (fun b => b = en ∨ b = it) noX := fun b o w e => by
      obtain ⟨o', e', _, hn⟩ := hW b w
      rw [e] at e'; cases e'; exact .inr hn
    have F₂ : FrameOK h'' noGh env sc σ noX := gs.fr.stepG gs.ok.gd st soft hoff
    have gs₂ := gs.own st (fun b w => by
      rcases w with rfl | rfl
      · exact ⟨O.u.1, .inl O.b.1⟩
      · exact ⟨O.u.2, .inl O.b.2⟩) F₂ gs.flat
    have rel₂ := rel.mut g₀ gs.ok st fun b w => by
      obtain ⟨o', e', _, hn⟩ := hW b w
      rcases w with rfl | rfl
      · exact ⟨O.u.1, O.b.1, o', e', hn⟩
      · exact ⟨O.u.2, O.b.2, o', e', hn⟩
    have ei₂ : EI en it ty tx t (i + 1) h'' := by
      refine ⟨⟨v, by simpa using he''⟩, ?_⟩
      obtain ⟨o, e, r⟩ := hst'
      exact ⟨o, hs''.extBut _ _ (Ne.symm O.ne) e, r⟩
    have q₂ : Q h'' := hQe _ _ q fun b o h1 h2 e => hs''.extBut b o h1 (hk b o h1 h2 e)
    obtain ⟨ch', u, hP1, rfl⟩ := hP
    rw [hci] at hP1; cases hP1
    have hT' : h''.get? s.heap.objs.size = some { cls := .type "tuple", data := .seq #[.int i tk, .str ⟨#[ch]⟩ u] } := by
      refine hs''.extBut _ _ (fun q => ?_) hT
      have : en < s.heap.objs.size := Heap.lt_size ei.en.choose_spec
      rw [← q] at this
      exact absurd this (Nat.lt_irrefl _)
    have hRp : Rp h'' noGh noX (.tup [.int i, .str ⟨#[ch]⟩]) (.ref s.heap.objs.size) := by
      simp only [Rp]
      refine ⟨by show (2 : Nat) ≤ 1048576; omega, _, [.int i tk, .str ⟨#[ch]⟩ u], rfl, id, ⟨0, by simpa using hT'⟩, ?_⟩
      simp only [RpL, Rp]
      exact ⟨_, _, rfl, ⟨_, rfl⟩, _, _, rfl, ⟨by show (1 : Nat) ≤ 1048576; omega, _, rfl⟩, rfl⟩
    have hbind : bindT sc (.Tuple [.Name x px, .Name y py] kk tp) (.tup [.int i, .str ⟨#[ch]⟩]) σ = some (Sig.set (Sig.set σ x (.int i)) y (.str ⟨#[ch]⟩)) := by
      show (if ((2 : Nat) == 2 && (stOk sc x && (stOk sc y && true))) = true then some (Sig.set (Sig.set σ x (.int i)) y (.str ⟨#[ch]⟩)) else none) = _
      rw [hx, hy]; rfl
    refine bind_ok hroom'.handled gs₂.ok (GS.al (U := U) (B := B)) gs₂.fr hbind hRp fun s₃ T₃ st₃ F₃ => ?_
    obtain ⟨rel₃, gs₃, kp₃⟩ := gs₂.bound G g₀ rel₂ st₃ F₃ ((gs.flat.set rfl).set rfl)
    have e : m + (ys₁ ++ ys₂).length = (m + ys₂.length) + ys₁.length := by simp; omega
    rw [e]
    refine Hb _ _ _ hbd (.forLoop (.Tuple [.Name x px, .Name y py] kk tp) (.ref en) body [] env) (.ret (backK env K H gd lv) none (gd false) (lv []) C p [] :: fs) _ _ id id (m + ys₂.length) pre (ys₂ ++ rest) s₀ s₃ (fun h => Q h ∧ EI en it ty tx t (i + 1) h)
      hroom' (by simp [splitAtGen, hsp]) rfl (by rw [List.any_cons, hfg]; show (gd false || false) = false; rw [hgd]; rfl) (by rw [hall]; simp) (by simp [hm]; omega) g₀ rel₃ gs₃ (fun h h' ⟨a, b⟩ k => ⟨hQ _ _ a k, b.kp O k⟩) (by intro q; cases q) ⟨hQ _ _ q₂ kp₃, ei₂.kp O kp₃⟩ fun s₀' s' g₀' rel' gs' ⟨q', ei'⟩ => ?_
    refine seg_again rfl ?_
    exact ih (i + 1) σ₁ ys₂ _ hlp hch' hlt C fs K H gd lv m (pre ++ ys₁) rest s₀' s' Q p hroom hsp hgd hfg (by rw [hall]; simp) hm g₀' rel' gs' hQ hQe q' ei' cont

end Mine
end

section
open PySem PySem.W PyProof.Rows PySem.SeqAt
set_option maxRecDepth 100000
namespace Mine
variable {c : Cx} {A : Around} {s : Shared} {T : Gh} {X : Addr → Prop} {env : Env} {sc : Scope} {σ : Sig}

set_option tactic.hygienic false
theorem gx_for {Kn : Know} {k n : Nat} {U B : Addr → Prop} {gi : Nat} {all : List D} (Bl : Blt c) (KO : KnowOK c Kn k) (G : GEnv c env sc) {e : Expr} {x y : Str} {px py tp fp cp p : Pos} {kk : Nat} {body : List Stmt} {tx : Str} {ys : List D} {σ' : Sig} {bd : Sig → Option (List D × Sig)}
    (hg : isGlob sc "enumerate" = true) (hx : stOk sc x = true) (hy : stOk sc y = true) (h : ev Kn n sc σ e = some (.str tx)) (hl : gloop bd x y 0 tx.cps.toList σ = some (ys, σ'))
    (Hb : ∀ σ ys σ', bd σ = some (ys, σ') → GxS c A U B gi all env sc k false (fun K H gd lv => (execs body env).wrap K H gd lv) σ ys σ') :
    GxS c A U B gi all env sc k true (fun K H gd lv => (exec (.For (.Tuple [.Name x px, .Name y py] kk tp) (.Call (.Name "enumerate" fp) [e] [] cp) body [] p) env).wrap K H gd lv) σ ys σ' := by
  intro C fs K H gd lv m pre rest s₀ s Q hroom hsp hgd hfg hall hm g₀ rel gs hQ hQt q cont
  have E := (ev_tr Bl KO (sort_ok Bl k) n).1 (A.over C fs) env sc σ noX hroom G.lam
  show SG c A U B gi all (m + ys.length) s₀ C (Sem.wrap K H gd lv (exec (.For (.Tuple [.Name x px, .Name y py] kk tp) (.Call (.Name "enumerate" fp) [e] [] cp) body [] p) env)) fs s
  have hs : seqM (ev Kn n sc σ) [e] = some [.str tx] := by simp only [seqM, h, Option.map_some]
  refine seg_For rfl (call_blt E hs (by simp) gs.ok (GS.al (U := U) (B := B)) gs.fr hg (by decide) (Bl.no _ (by decide)) Bl.enumerate (.inr ⟨_, rfl⟩) fun vs s' T' g' st r => ?_)
  simp only [RpL] at r
  obtain ⟨v, _, rfl, rv, rfl⟩ := r
  simp only [Rp] at rv
  obtain ⟨hlen, t, rfl⟩ := rv
  refine call_enumerate_str fun h' hen hit hsz hkeep => ?_
  refine wpAny_pyIter_enum hen fun pp => ?_
  have gs₁ := gs.step st
  have rel₁ := rel.step gs.ok st
  have st₂ : Step c s' noGh { s' with heap := h' } noGh := Step.of_push hkeep (Nat.le_refl _)
  have gs₂ := gs₁.step st₂
  have rel₂ := rel₁.step gs₁.ok st₂
  have f1 : s'.heap.get? s'.heap.objs.size = none := Heap.get?_none_of_le (Nat.le_refl _)
  have f2 : s'.heap.get? (s'.heap.objs.size + 1) = none := Heap.get?_none_of_le (Nat.le_succ _)
  have nU : ∀ b, s'.heap.get? b = none → ¬ U b ∧ B b := fun b hb => by
    have hu : ¬ U b := fun hu => by obtain ⟨_, o, e⟩ := gs₁.ua b hu; rw [hb] at e; cases e
    refine ⟨hu, Classical.byContradiction fun hB => ?_⟩
    rcases gs₁.old b hB with h | ⟨o, e⟩
    · exact hu h
    · rw [hb] at e; cases e
  have hLlt : env.locals < s'.heap.objs.size := by
    obtain ⟨o, e, _⟩ := gs₁.fr.notSeq env.locals (.inl rfl); exact Heap.lt_size e
  have O : EnOK c U B env (s'.heap.objs.size + 1) s'.heap.objs.size (strIterType tx) tx := by
    refine ⟨Nat.succ_ne_self _, ⟨(nU _ f2).1, (nU _ f1).1⟩, ⟨(nU _ f2).2, (nU _ f1).2⟩, ⟨gs₁.ok.gd.ne_of_none f2, gs₁.ok.gd.ne_of_none f1⟩, ⟨Nat.ne_of_gt (Nat.lt_succ_of_lt hLlt), Nat.ne_of_gt hLlt⟩, ?_⟩
    unfold strIterType
    split
    · exact .inl rfl
    · exact .inr rfl
  exact gloop_sound (Q := Q) G Hb O hx hy tx.cps.toList 0 σ ys σ' hl rfl (Nat.zero_le _) C fs K H gd lv m pre rest s₀ _ pp hroom hsp hgd hfg hall hm g₀ rel₂ gs₂ hQ (fun h h' a zz => hQt rfl h h' a) (hQ _ _ (hQ _ _ q st.kp) st₂.kp) ⟨⟨_, hen⟩, hit⟩ cont

noncomputable def stForms (st : Stmt) : Prop := (∃ t b e p, st = .If t b e p) ∨ (∃ x px y py kk tp f fp e cp body p, st = .For (.Tuple [.Name x px, .Name y py] kk tp) (.Call (.Name f fp) [e] [] cp) body [] p) ∨ (∃ e p q, st = .Expr (.Yield (some e) p) q) ∨ (∃ x p v q, st = .Assign [.Name x p] v q)
noncomputable def stNone (st : Stmt) : Prop := ∀ (α : Type) (f1 : Expr → List Stmt → List Stmt → α) (f2 : Str → Str → Str → Expr → List Stmt → α) (f3 : Expr → α) (f4 : Str → Expr → α) (f5 : α), (match st with
      | .If t b e _ => f1 t b e
      | .For (.Tuple [.Name x _, .Name y _] _ _) (.Call (.Name f _) [e] [] _) body [] _ => f2 x y f e body
      | .Expr (.Yield (some e) _) _ => f3 e
      | .Assign [.Name x _] v _ => f4 x v
      | _ => f5) = f5
theorem stNo {st : Stmt} (h : stNone st) : stForms st ∨ stNone st := .inr h
theorem st_view (st : Stmt) : stForms st ∨ stNone st := by
  induction st using Stmt.casesOn with
  | If t b e p => exact .inl (.inl ⟨_, _, _, _, rfl⟩)
  | Expr v q =>
    induction v using Expr.casesOn with
    | Yield o p =>
      induction o using Option.casesOn with
      | some e => exact .inl (.inr (.inr (.inl ⟨_, _, _, rfl⟩)))
      | none => exact stNo fun α zz zz zz zz f => @rfl α f
    | _ => exact stNo fun α zz zz zz zz f => @rfl α f
  | Assign ts v q =>
    induction ts using List.casesOn with
    | nil => exact stNo fun α zz zz zz zz f => @rfl α f
    | cons t ts =>
      induction t using Expr.casesOn with
      | Name x p =>
        induction ts using List.casesOn with
        | nil => exact .inl (.inr (.inr (.inr ⟨_, _, _, _, rfl⟩)))
        | cons _ _ => exact stNo fun α zz zz zz zz f => @rfl α f
      | _ => exact stNo fun α zz zz zz zz f => @rfl α f
  | For tgt it body els p =>
    induction tgt using Expr.casesOn with
    | Tuple ts kk tp =>
      induction ts using List.casesOn with
      | nil => exact stNo fun α zz zz zz zz f => @rfl α f
      | cons t1 ts =>
        induction t1 using Expr.casesOn with
        | Name x px =>
          induction ts using List.casesOn with
          | nil => exact stNo fun α zz zz zz zz f => @rfl α f
          | cons t2 ts =>
            induction t2 using Expr.casesOn with
            | Name y py =>
              induction ts using List.casesOn with
              | cons _ _ => exact stNo fun α zz zz zz zz f => @rfl α f
              | nil =>
                induction it using Expr.casesOn with
                | Call fn args kws cp =>
                  induction fn using Expr.casesOn with
                  | Name f fp =>
                    induction args using List.casesOn with
                    | nil => exact stNo fun α zz zz zz zz f => @rfl α f
                    | cons e es =>
                      induction es using List.casesOn with
                      | cons _ _ => exact stNo fun α zz zz zz zz f => @rfl α f
                      | nil =>
                        induction kws using List.casesOn with
                        | cons _ _ => exact stNo fun α zz zz zz zz f => @rfl α f
                        | nil =>
                          induction els using List.casesOn with
                          | cons _ _ => exact stNo fun α zz zz zz zz f => @rfl α f
                          | nil => exact .inl (.inr (.inl ⟨_, _, _, _, _, _, _, _, _, _, _, _, rfl⟩))
                  | _ => exact stNo fun α zz zz zz zz f => @rfl α f
                | _ => exact stNo fun α zz zz zz zz f => @rfl α f
            | _ => exact stNo fun α zz zz zz zz f => @rfl α f
        | _ => exact stNo fun α zz zz zz zz f => @rfl α f
    | _ => exact stNo fun α zz zz zz zz f => @rfl α f
  | _ => exact stNo fun α zz zz zz zz f => @rfl α f

set_option tactic.hygienic true
theorem gx_sound {Kn : Know} {k : Nat} {U B : Addr → Prop} {gi : Nat} {all : List D} (Bl : Blt c) (KO : KnowOK c Kn k) (G : GEnv c env sc) : ∀ n,
    (∀ top st σ ys σ', gx Kn top n sc σ st = some (ys, σ') → GxS c A U B gi all env sc k top (fun K H gd lv => (exec st env).wrap K H gd lv) σ ys σ') ∧
    (∀ top sts σ ys σ', gxs Kn top n sc σ sts = some (ys, σ') → GxS c A U B gi all env sc k top (fun K H gd lv => (execs sts env).wrap K H gd lv) σ ys σ') := by
  intro n
  induction n with
  | zero => exact ⟨fun top st σ ys σ' h => noneE h, fun top sts σ ys σ' h => noneE h⟩
  | succ n ih =>
    obtain ⟨ihx, ihs⟩ := ih
    constructor
    · intro top st σ ys σ' h
      obtain (⟨t, b, e, p, rfl⟩ | ⟨x, px, y, py, kk, tp, f, fp, e, cp, body, p, rfl⟩ | ⟨e, p, q, rfl⟩ | ⟨x, p, v, q, rfl⟩) | hn := st_view st
      · obtain ⟨b, h1, h2⟩ := Option.bind_eq_some_iff.mp h
        exact gx_if Bl KO G h1 (ihs top _ _ _ _ h2)
      · replace h : (if (top && f == "enumerate" && isGlob sc f && stOk sc x && stOk sc y) = true then (ev Kn n sc σ e).bind fun d => match d with
          | .str s => gloop (fun σ => gxs Kn false n sc σ body) x y 0 s.cps.toList σ
          | _ => none
          else none) = some (ys, σ') := h
        by_cases hc : (top && f == "enumerate" && isGlob sc f && stOk sc x && stOk sc y) = true
        · rw [if_pos hc] at h
          simp only [Bool.and_eq_true, beq_iff_eq] at hc
          obtain ⟨⟨⟨⟨rfl, rfl⟩, hg⟩, hx⟩, hy⟩ := hc
          obtain ⟨d, h1, h2⟩ := Option.bind_eq_some_iff.mp h
          cases d <;> try (exact noneE h2; done)
          exact gx_for Bl KO G hg hx hy h1 h2 fun σ ys σ' hb => ihs false _ _ _ _ hb
        · rw [if_neg hc] at h; cases h
      · obtain ⟨d, h1, h2⟩ := Option.bind_eq_some_iff.mp h
        split at h2
        · cases h2
          exact gx_yield Bl KO G h1
        · cases h2
      · replace h : (if stOk sc x = true then (ev Kn n sc σ v).bind fun d => if flatD d = true then some ([], Sig.set σ x d) else none else none) = some (ys, σ') := h
        split at h
        · rename_i hx
          obtain ⟨d, h1, h2⟩ := Option.bind_eq_some_iff.mp h
          split at h2
          · rename_i hd
            cases h2
            exact gx_assign Bl KO G hx h1 hd
          · cases h2
        · cases h
      · exact noneE ((hn _ _ _ _ _ _).symm.trans h)
    · intro top sts σ ys σ' h
      cases sts with
      | nil =>
        cases h
        exact gx_nil
      | cons st rs =>
        obtain ⟨⟨ys₁, σ₁⟩, h1, h4⟩ := Option.bind_eq_some_iff.mp h
        obtain ⟨⟨ys₂, σ₂⟩, h2, h3⟩ := Option.map_eq_some_iff.mp h4
        cases h3
        exact gx_cons (ihx top _ _ _ _ h1) (ihs top _ _ _ _ h2)

end Mine
end

section
open PySem PySem.W PyProof.Rows PySem.SeqAt
set_option maxRecDepth 100000
namespace Mine
variable {c : Cx} {A : Around} {s : Shared} {T : Gh} {X : Addr → Prop} {env : Env} {sc : Scope} {σ : Sig}

set_option tactic.hygienic false
theorem Ok.setGen {g : Nat} {x : GenState} (h : Ok c s T) : Ok c (s.setGen g x) T := ⟨h.gd, h.pos, h.tv⟩
set_option tactic.hygienic true
theorem setGen_ne {g i : Nat} {x : GenState} (h : i ≠ g) : (s.setGen g x).gens[i]? = s.gens[i]? := by
  simp only [Shared.setGen]
  rw [Array.getElem?_setIfInBounds]
  split
  · rename_i q; exact absurd q.symm h
  · rfl
set_option tactic.hygienic false
theorem setGen_self {g : Nat} {x : GenState} (h : g < s.gens.size) : (s.setGen g x).gens[g]? = some x := by
  simp [Shared.setGen, h]
theorem setGen_size {g : Nat} {x : GenState} : (s.setGen g x).gens.size = s.gens.size := by simp [Shared.setGen]

theorem StepG.entry {s' : Shared} {T' : Gh} {W : Addr → Prop} {gi : Nat} {x y : GenState} (st : StepG c W (some gi) (s.setGen gi x) T s' T') : StepG c W (some gi) s T (s'.setGen gi y) T' := by
  refine ⟨st.keep, st.tk, st.le, fun g => (st.ok g.setGen).setGen, st.os, by rw [setGen_size]; have := st.gsz; rw [setGen_size] at this; exact this, fun i hi hne => ?_, fun i z hi hne e => ?_⟩
  · have hn : i ≠ gi := fun q => hne (by rw [q])
    rw [setGen_ne hn, st.gold i (by rw [setGen_size]; exact hi) hne, setGen_ne hn]
  · have hn : i ≠ gi := fun q => hne (by rw [q])
    rw [setGen_ne hn] at e
    exact st.gnew i z (by rw [setGen_size]; exact hi) hne e

end Mine
end

section
open PySem PySem.W PyProof.Rows PySem.SeqAt
set_option maxRecDepth 100000
namespace Mine
variable {c : Cx} {A : Around} {s : Shared} {T : Gh} {X : Addr → Prop} {env : Env} {sc : Scope} {σ : Sig}

structure GSt (c : Cx) (A : Around) (U B : Addr → Prop) (gi : Nat) (a : Addr) (all : List D) (ds : List D) (s : Shared) : Prop where
  gen : s.heap.IsGen a gi
  off : ¬ U a ∧ a ≠ c.P
  pre : ∃ pre, all = pre ++ ds
  up : ∀ b, U b → b ≠ c.P
  go : ∃ gs, s.gens[gi]? = some gs ∧ ∀ s'', Later c U s s'' → gs.Goes (model c.prog c.w) A.in1 (fun n s₀ r s₁ => r = .ok (.ret .none) ∧ GP c U B gi n s₀ s₁) (GY c U B gi all) ds.length (.send .none) (s''.setGen gi .running)

set_option tactic.hygienic false
theorem Later.refl {U : Addr → Prop} (g : Ok c s T) (hu : ∀ b, U b → b ≠ c.P) (hl : ∀ b, ¬ U b ∨ ∃ o, s.heap.get? b = some o) : Later c U s s :=
  ⟨g.none, fun zz zz zz zz e => e, fun b h => ⟨hu b h, (hl b).resolve_left (fun q => q h)⟩⟩
theorem Later.rel {U B : Addr → Prop} {gi : Nat} {s₀ : Shared} (g₀ : Ok c s₀ noGh) (l : Later c U s₀ s₀) (r : Rel c U B gi s₀ s) : Later c U s s :=
  ⟨(r noGh g₀).ok g₀, fun zz zz zz zz e => e, fun b h => let ⟨hp, o, e⟩ := l.ua b h; ⟨hp, o, (r noGh g₀).keep b o hp (fun w => w.1 h) e⟩⟩

theorem GW.soft {U B : Addr → Prop} : Soft s.heap (GW U B s) X := fun b o w e => .inr fun is n => w.2.2 o e is n

theorem iter_gen {U B : Addr → Prop} {gi : Nat} {a : Addr} {all : List D} {k : Nat} (hr : Room A (k + 1)) (hXU : ∀ b, X b → U b) (hB : ¬ B a) : IterS c A X (.ref a) (fun b => ¬ U b) (fun b => ¬ U b ∧ B b) (some gi) (fun ds s T => GSt c A U B gi a all ds s) := by
  refine ⟨?_, ?_, ?_, ?_, ?_, fun b h => h.1⟩
  · rintro d ds s T ⟨hg, hoff, ⟨pre, hpre⟩, hup, gs, hgs, hgo⟩ g hX hl
    have l := Later.refl (U := U) g hup hl
    have hlt : gi < s.gens.size := by
      by_cases h : gi < s.gens.size
      · exact h
      · rw [Array.getElem?_eq_none (by omega)] at hgs; cases hgs
    refine wpAny_pyNext_gen hr.handled g.gd.nolimit hr.lim hg hgs (hgo s l) (fun v s₁ gs' hY => ?_) (fun s₁ hP h' hk => ?_)
    · obtain ⟨hrel, ⟨i, u, ta, t1, t2, hi, rfl, hpt, hta, hu⟩, hcont⟩ := hY
      have hd : d = .tup [.int i, .str u] := by
        have : all.length - 1 - ((d :: ds).length - 1) = pre.length := by rw [hpre]; simp
        rw [this, hpre] at hi
        simpa using hi
      subst hd
      have g₀ : Ok c (s.setGen gi .running) noGh := g.none.setGen
      have st : StepG c (GW U B s) (some gi) s T (s₁.setGen gi gs') T := StepG.entry (x := .running) (hrel T g.setGen)
      refine ⟨_, T, _, rfl, fun b w => ⟨w.1, w.2.1⟩, GW.soft, st, ?_, ?_⟩
      · simp only [Rp]
        obtain ⟨n, hn⟩ := hpt
        refine ⟨by show (2 : Nat) ≤ 1048576; omega, ta, [.int i t1, .str u t2], rfl, fun q => hta (hXU ta q), ⟨n, hn⟩, ?_⟩
        simp only [RpL, Rp]
        exact ⟨_, _, rfl, ⟨_, rfl⟩, _, _, rfl, ⟨hu, _, rfl⟩, rfl⟩
      · refine ⟨?_, hoff, ⟨pre ++ [.tup [.int i, .str u]], by rw [hpre]; simp⟩, hup, gs', ?_, fun s'' l'' => ?_⟩
        · obtain ⟨o, nm, qn, e, hc, hd, hs⟩ := hg
          exact ⟨o, nm, qn, (hrel T g.setGen).keep a o hoff.2 (fun w => hB w.2.1) e, hc, hd, hs⟩
        · refine setGen_self ?_
          have := (hrel T g.setGen).gsz
          rw [setGen_size] at this; omega
        · exact hcont (s''.setGen gi .running) ⟨l''.ok.setGen, l''.keep, l''.ua⟩
    · exact absurd hP.1 (by simp)
  · rintro s T ⟨hg, hoff, ⟨pre, hpre⟩, hup, gs, hgs, hgo⟩ g hl
    have l := Later.refl (U := U) g hup hl
    have hlt : gi < s.gens.size := by
      by_cases h : gi < s.gens.size
      · exact h
      · rw [Array.getElem?_eq_none (by omega)] at hgs; cases hgs
    have g₀ : Ok c (s.setGen gi .running) noGh := g.none.setGen
    have l₀ : Later c U (s.setGen gi .running) (s.setGen gi .running) := ⟨g₀, fun zz zz zz zz e => e, l.ua⟩
    refine wpAny_pyNext_gen hr.handled g.gd.nolimit hr.lim hg hgs (hgo s l) (fun v s₁ gs' hY => ?_) (fun s₁ hP h' hk => ?_)
    · exact (hY.2.2 s₁ (l₀.rel g₀ hY.1)).elim
    · obtain ⟨_, hrel⟩ := hP
      have st : StepG c (GW U B s) (some gi) s T (s₁.setGen gi .finished) T := StepG.entry (x := .running) (hrel T g.setGen)
      have st₂ : Step c (s₁.setGen gi .finished) T { s₁.setGen gi .finished with heap := h' } T := Step.of_push hk (Nat.le_refl _)
      refine ⟨T, _, rfl, fun b w => ⟨w.1, w.2.1⟩, GW.soft, st.trans st₂.g, fun i hi => ?_⟩
      cases hi
      refine setGen_self ?_
      have := (hrel T g.setGen).gsz
      rw [setGen_size] at this; omega
  · rintro ds s T Q ⟨hg, _⟩ hQ
    exact wpAny_pyIter_gen hg hQ
  · rintro ds s T t v Q ⟨⟨o, nm, qn, e, hc, hd, hs⟩, _⟩ hQ
    exact own_ok e hc (by decide) hQ
  · rintro ds s T s' T' W ⟨⟨o, nm, qn, e, hc, hd, hs⟩, hoff, hpre, hup, gs, hgs, hgo⟩ g st hW hsoft
    have hWU : ∀ b, W b → U b := fun b w => Classical.byContradiction fun h => hW b h w
    have hlt : gi < s.gens.size := by
      by_cases h : gi < s.gens.size
      · exact h
      · rw [Array.getElem?_eq_none (by omega)] at hgs; cases hgs
    refine ⟨⟨o, nm, qn, st.keep a o hoff.2 (fun w => hoff.1 (hWU a w)) e, hc, hd, hs⟩, hoff, hpre, hup, gs, by rw [st.gold gi hlt (by simp)]; exact hgs, fun s'' l => hgo s'' ⟨l.ok, fun b o' hu hp e' => l.keep b o' hu hp (st.keep b o' hp (fun w => hu (hWU b w)) e'), l.ua⟩⟩

end Mine
end

section
open PySem PySem.W PyProof.Rows PySem.SeqAt
set_option maxRecDepth 100000
namespace Mine
variable {c : Cx} {A : Around} {s : Shared} {T : Gh} {X : Addr → Prop} {env : Env} {sc : Scope} {σ : Sig}

structure GenOK (c : Cx) (d : DefRec) : Prop where
  mem : d ∈ c.defs
  bind : ∀ vs pm code doc, vs.length = d.params.args.length → bindArgs (Calls.docDef d.name d.params d.body d.scope pm code doc) ⟨vs, []⟩ = pure ((d.params.args.map (·.arg)).zip vs)
  kind : d.scope.kind = .function
  gen : d.scope.isGenerator = true
  co : d.scope.isCoroutine = false
  free : ∀ y ∈ d.scope.names, y.2 ≠ .free
  cell : ∀ y ∈ d.scope.names, y.2 ≠ .cell
  par : ∀ x ∈ d.params.args.map (·.arg), d.scope.names.lookup x = some .local
  lam : d.scope ≠ c.lsc

set_option tactic.hygienic false
theorem GenOK.noCell {d : DefRec} (h : GenOK c d) (f : Str) : d.scope.names.lookup f ≠ some .cell := fun e => h.cell _ (mem_of_lookup e) rfl

theorem Room.func {body : List Stmt} {k : Nat} (h : Room A (k + 1)) : Room (A.in1.over (.func body env) []) k := by
  refine ⟨h.1, ?_, ?_⟩
  · have := h.2
    show A.depth + 0 + 1 + k ≤ 900
    omega
  · have := h.3
    show A.units + 1 + 0 + 3 + 20 * k ≤ 9000
    omega

set_option tactic.hygienic true
theorem gen_sound {Kn : Know} {k n : Nat} (Bl : Blt c) (KO : KnowOK c Kn k) {d : DefRec} (DO : GenOK c d) {ds l : List D} {σ₀ σ' : Sig} (hσ : setAll (fun zz => none) (d.params.args.map (·.arg)) ds = some σ₀) (hflat : FlatS σ₀)
    (h : gxs Kn true n d.scope σ₀ d.body = some (l, σ')) {a : Addr} (ha : c.mg d.name = some (.ref a)) {vs : List Value} (hr : Room A (k + 1)) (g : Ok c s T) (hX : Al c s.heap X) (H : RpL s.heap T X ds vs) :
    wpAny (model c.prog c.w) A (call (.ref a) vs) (fun it s₁ => wpAny (model c.prog c.w) A (pyIter it) (fun it' s₂ => ∃ gi, ItR c A X gi s T l it' s₂) noE s₁) noE s := by
  obtain ⟨a', o, pm, code, doc, hm, ho, hd, hcd⟩ := g.gd.fn d DO.mem
  rw [ha] at hm; cases hm
  have hlen := setAll_len hσ
  have hvl := H.length
  refine wpAny_call (codeAny_call_generator (fd := Calls.docDef d.name d.params d.body d.scope pm code doc) hr.lim ho hd DO.co DO.gen rfl hcd ?_)
  rw [DO.bind vs pm code doc (by rw [hvl, hlen]; simp)]
  refine wpAny_pure (wpAny_with_toks (Nat.le_refl _) (wpAny_newFunctionEnv_cells (scope := d.scope) DO.kind (fun x hx => .inl (DO.par x.1 (List.of_mem_zip hx).1)) fun env he s₁ x htk => ?_))
  refine ⟨g.gd.nolimit.keeps x.toInCall.keep, ?_⟩
  obtain ⟨h₁, tk, rfl, _⟩ := x.done
  have st₁ : Step c s T { s with heap := h₁, toks := tk } T := Step.of_push x.toInCall.keep htk
  have g₁ := st₁.ok g
  have e1 : env.scope = d.scope := by rw [he]; rfl
  have e2 : env.locals = s.heap.objs.size := by rw [he]; rfl
  have e3 : env.cells = cellsFrom (s.heap.objs.size + 1) d.scope.names [] := by rw [he]; rfl
  have e3' : env.cells = [] := by
    rw [e3]
    have : ∀ (names : List (Str × NameKind)) (m : Nat), (∀ y ∈ names, y.2 ≠ .cell) → cellsFrom m names [] = [] := by
      intro names
      induction names with
      | nil => intro m _; rfl
      | cons y ys ih =>
        intro m hy
        obtain ⟨f, kd⟩ := y
        unfold cellsFrom
        rw [if_neg (by simpa using hy (f, kd) (by simp))]
        exact ih m fun z hz => hy z (List.mem_cons_of_mem _ hz)
    exact this _ _ DO.cell
  have e4 : env.globals = mainGlobals := by rw [he]; rfl
  have e5 : env.builtins = builtinsNs := by rw [he]; rfl
  have hko : ∀ f, env.kindOf f = d.scope.names.lookup f := fun f => by unfold Env.kindOf; rw [e1]
  have h3 : (3 : Nat) < s.heap.objs.size := by
    obtain ⟨o, es, ep, hg, _⟩ := g.gd.g
    exact Heap.lt_size hg
  have eok : EnvOK env d.scope := by
    refine ⟨by rw [e1]; exact DO.kind, e4, e5, fun f e => by rw [hko]; exact e, fun f e => by rw [hko]; exact e, fun f e => ?_, fun f e => by rw [hko]; exact e, by rw [e2]; exact h3, fun f f' a h1 h2 => by rw [e3'] at h1; cases h1⟩
    rcases e with e | e
    · exact absurd e (DO.noCell f)
    · exact absurd rfl (DO.free _ (mem_of_lookup e))
  have F₁ : FrameOK h₁ T env d.scope σ₀ X := by
    refine ⟨eok, ⟨_, x.toInCall.ns⟩, fun f a e => (by rw [e3'] at e; cases e), fun y dd hy => ?_⟩
    obtain ⟨v, r1, r2⟩ := binds_has (kindOf := env.kindOf) (d.params.args.map (·.arg)) ds vs (fun zz => none) (fun zz => none) (fun zz => none) σ₀ (fun x hx => by
      rw [hko]; exact .inl (DO.par x hx)) hσ (st₁.rpL g.gd H) (by intro x d e; cases e) y dd hy
    refine ⟨v, ?_, r1⟩
    rcases r2 with ⟨q1, q2⟩ | ⟨q1, q2⟩
    · exact .inl ⟨q1, _, x.toInCall.ns, q2⟩
    · rw [hko] at q1; exact absurd q1 (DO.noCell y)
  have G : GEnv c env d.scope := ⟨e3', DO.noCell, by rw [e1]; exact DO.co, fun q => absurd q DO.lam, by rw [e1]; exact DO.kind⟩
  have key : ∀ (S : Shared), S = { s with gens := s.gens.push (.fresh (.func d.body env)), toks := tk + 1 + 1, heap := h₁.push { cls := .type "generator", data := .fields #[.int s.gens.size 0, .str d.name tk, .str d.name (tk + 1)] } } →
      wpAny (model c.prog c.w) A (pyIter (.ref h₁.objs.size)) (fun it' s₂ => ∃ gi, ItR c A X gi s T l it' s₂) noE S := by
    rintro S rfl
    have hobj : (h₁.push { cls := .type "generator", data := .fields #[.int s.gens.size 0, .str d.name tk, .str d.name (tk + 1)] }).IsGen h₁.objs.size s.gens.size := ⟨_, _, _, Heap.get?_push_size _ rfl, rfl, rfl, rfl⟩
    refine wpAny_pyIter_gen hobj ⟨some s.gens.size, T, ?_, fun X' U hXU hX' hU => ?_, fun i hi => by cases hi; exact Nat.le_refl _⟩
    · refine ⟨fun b o hb zz e => Heap.get?_push_of_some _ (st₁.keep b o hb e), Nat.le_trans htk (by show tk ≤ tk + 1 + 1; omega), fun zz zz e => e, fun g' => ?_, rfl, by simp, fun i hi zz => ?_, fun i z hi hne e => ?_⟩
      · exact ⟨g₁.gd.keeps fun b o e => Heap.get?_push_of_some _ e, Nat.lt_of_lt_of_le g₁.pos (by show tk ≤ tk + 1 + 1; omega), fun t' z e => ⟨Nat.lt_of_lt_of_le (g₁.tv t' z e).1 (by show tk ≤ tk + 1 + 1; omega), (g₁.tv t' z e).2⟩⟩
      · show (s.gens.push _)[i]? = s.gens[i]?
        rw [Array.getElem?_push, if_neg (by omega)]
      · have : (s.gens.push (.fresh (.func d.body env)))[i]? = some z := e
        rw [Array.getElem?_push] at this
        split at this
        · rename_i q; exact absurd (by rw [q]) hne
        · rw [Array.getElem?_eq_none hi] at this; cases this
    · let B : Addr → Prop := fun b => s.heap.get? b = none ∧ b ≠ h₁.objs.size
      have fr : ∀ b, U b → b ≠ c.P ∧ (∀ o, s.heap.get? b = none → h₁.get? b = some o → False) ∧ b ≠ h₁.objs.size := fun b hb => by
        rcases hU b hb with hn | ⟨hp, o, e, _⟩
        · refine ⟨fun q => ?_, fun o zz e => ?_, fun q => ?_⟩
          · obtain ⟨ps, hP, _⟩ := g₁.gd.tab
            have : (h₁.push { cls := .type "generator", data := .fields #[.int s.gens.size 0, .str d.name tk, .str d.name (tk + 1)] }).get? b = none := hn
            rw [q, Heap.get?_push_of_some _ hP] at this; cases this
          · have : (h₁.push { cls := .type "generator", data := .fields #[.int s.gens.size 0, .str d.name tk, .str d.name (tk + 1)] }).get? b = none := hn
            rw [Heap.get?_push_of_some _ e] at this; cases this
          · have : (h₁.push { cls := .type "generator", data := .fields #[.int s.gens.size 0, .str d.name tk, .str d.name (tk + 1)] }).get? b = none := hn
            rw [q, Heap.get?_push_size _ rfl] at this; cases this
        · exact ⟨hp, fun o' e' zz => (by rw [e] at e'; cases e'), Nat.ne_of_lt (Heap.lt_size (st₁.keep b o hp e))⟩
      have hfs : h₁.get? h₁.objs.size = none := Heap.get?_none_of_le (Nat.le_refl _)
      have hLlt : env.locals < h₁.objs.size := by
        exact x.toInCall.ns.lt
      have I := iter_gen (c := c) (A := A) (X := X') (U := U) (B := B) (gi := s.gens.size) (a := h₁.objs.size) (all := l) hr hXU (fun hb => hb.2 rfl)
      refine ⟨_, ⟨fun d ds s T h1 h2 h3 h4 => ?_, fun s T h1 h2 h3 => ?_, I.self, I.own, I.frame, fun b h => h.1⟩, ?_⟩
      · exact wpAny_mono (I.next d ds s T h1 h2 h3 h4) (fun r s' ⟨v, T', w, q1, q2, q3⟩ => ⟨v, T', w, q1, fun b hb => ⟨(q2 b hb).1, (q2 b hb).2.1⟩, q3⟩) fun zz zz e => e
      · exact wpAny_mono (I.stop s T h1 h2 h3) (fun r s' ⟨T', w, q1, q2, q3⟩ => ⟨T', w, q1, fun b hb => ⟨(q2 b hb).1, (q2 b hb).2.1⟩, q3⟩) fun zz zz e => e
      · refine ⟨hobj, ⟨fun hu => (fr _ hu).2.2 rfl, ?_⟩, ⟨[], rfl⟩, fun b hb => (fr b hb).1, .fresh (.func d.body env), by simp, fun s'' l'' => ⟨rfl, ?_⟩⟩
        · exact g₁.gd.ne_of_none hfs
        · have hL : s.heap.get? env.locals = none := by rw [e2]; exact Heap.get?_none_of_le (Nat.le_refl _)
          have nL : ¬ U env.locals := fun hu => by
            obtain ⟨m, o, es, ep, e, _⟩ := F₁.ns
            exact (fr _ hu).2.1 o hL e
          have nP : env.locals ≠ c.P := fun q => by
            obtain ⟨ps, hP, _⟩ := g₁.gd.tab
            obtain ⟨m, o, es, ep, e, hd, _⟩ := F₁.ns
            have e' : h₁.get? c.P = some o := by rw [← q]; exact e
            have hP' : h₁.get? c.P = some (tabObj ps) := hP
            rw [hP'] at e'; cases e'; cases hd
          have ns : ∀ m, h₁.Ns env.locals m → s''.heap.Ns env.locals m := fun m h => by
            obtain ⟨o, es, ep, e, r⟩ := h
            exact ⟨o, es, ep, l''.keep _ _ nL nP (Heap.get?_push_of_some _ e), r⟩
          have gs₀ : GS c U B env d.scope σ₀ (s''.setGen s.gens.size .running) := by
            refine ⟨l''.ok.setGen, ⟨eok, let ⟨m, h⟩ := F₁.ns; ⟨m, ns m h⟩, fun f a e => (by rw [e3'] at e; cases e), fun y dd hy => ?_⟩, hflat, ⟨nL, hL, Nat.ne_of_lt hLlt⟩, l''.ua, fun b hb => ?_⟩
            · obtain ⟨v, h1, h2⟩ := F₁.has y dd hy
              refine ⟨v, ?_, h2.flat (hflat y dd hy)⟩
              rcases h1 with ⟨q1, m, q2, q3⟩ | ⟨q1, a, q2, q3⟩
              · exact .inl ⟨q1, m, ns m q2, q3⟩
              · rw [e3'] at q2; cases q2
            · by_cases hu : U b
              · exact .inl hu
              · refine .inr ?_
                have hS : ∃ o, (h₁.push { cls := .type "generator", data := .fields #[.int s.gens.size 0, .str d.name tk, .str d.name (tk + 1)] }).get? b = some o := by
                  by_cases hq : b = h₁.objs.size
                  · rw [hq]; exact ⟨_, Heap.get?_push_size _ rfl⟩
                  · cases e : s.heap.get? b with
                    | none => exact absurd ⟨e, hq⟩ hb
                    | some o => exact ⟨o, Heap.get?_push_of_some _ (x.toInCall.keep b o e)⟩
                by_cases hp : b = c.P
                · obtain ⟨ps, hP, _⟩ := l''.ok.gd.tab
                  exact ⟨_, by rw [hp]; exact hP⟩
                · obtain ⟨o, e⟩ := hS
                  exact ⟨o, l''.keep b o hu hp e⟩
          refine seg_func ?_
          have := (gx_sound (A := A.in1) (U := U) (B := B) (gi := s.gens.size) (all := l) Bl KO G n).2 true d.body σ₀ l σ' h (.func d.body env) [] (fun f => .pure (.done (.ret (match f with | .ret v => v | _ => .none)))) (fun e => (leaving env e).wrap (fun zz => .raise e) .raise id id) id id 0 [] [] (s''.setGen s.gens.size .running) (s''.setGen s.gens.size .running) (fun zz => True)
            (Room.func hr) rfl rfl rfl (by simp) rfl l''.ok.setGen Rel.refl gs₀ (fun zz zz zz zz => trivial) (fun zz zz zz zz => trivial) trivial fun s₀' s' g₀' rel' gs' zz => seg_end (.ok (.ret .none)) ⟨rfl, rfl, rel'⟩
          rw [Nat.zero_add] at this
          exact this
  exact key _ rfl

end Mine
end

section
open PySem PySem.W PyProof.Rows
set_option maxRecDepth 100000
namespace Mine

noncomputable def kids (e : Expr) : List Expr := e.casesOn (motive_1 := fun zz => List Expr) (fun a b c => b) (fun a a a => []) (fun a b c d => [a, c]) (fun a a a => []) (fun a a a a => []) (fun a a a a => []) (fun a a a => []) (fun a a a => []) (fun a a a a => []) (fun a a a a => []) (fun a a a a a => []) (fun a a a a => []) (fun a a => []) (fun a a => []) (fun a a => []) (fun a b c d => a :: c) (fun a b c d => a :: b) (fun a a a a => []) (fun a a => []) (fun a a a => []) (fun a a a => []) (fun a a a => []) (fun a a => []) (fun a a => []) (fun a b => a) (fun a b c => a) (fun a b c d => a.toList ++ b.toList)
noncomputable def kid (e : Expr) (i : Nat) : Expr := (kids e).getD i (.Constant .none 0 ⟨0, 0, 0, 0⟩)
noncomputable def stParts (s : Stmt) : List Expr × List Stmt × List Stmt := s.casesOn (motive_2 := fun zz => List Expr × List Stmt × List Stmt) (fun a b c d e f g h i j => ([], c, [])) (fun a a a a a a a a a a => ([], [], [])) (fun a a a a a a a a a a a => ([], [], [])) (fun a b => (a.toList, [], [])) (fun a a => ([], [], [])) (fun a b c => (b :: a, [], [])) (fun a a a a a a a => ([], [], [])) (fun a b c d => ([c, a], [], [])) (fun a a a a a => ([], [], [])) (fun a b c d e => ([b, a], c, d)) (fun a a a a a => ([], [], [])) (fun a b c d => ([a], b, c)) (fun a b c d => ([a], b, c)) (fun a a a => ([], [], [])) (fun a a a => ([], [], [])) (fun a a a => ([], [], [])) (fun a a a => ([], [], [])) (fun a a a a a => ([], [], [])) (fun a a a a a => ([], [], [])) (fun a a a => ([], [], [])) (fun a a => ([], [], [])) (fun a a a a => ([], [], [])) (fun a a => ([], [], [])) (fun a a => ([], [], [])) (fun a b => ([a], [], [])) (fun a => ([], [], [])) (fun a => ([], [], [])) (fun a => ([], [], []))
noncomputable def sx (s : Stmt) (i : Nat) : Expr := (stParts s).1.getD i (.Constant .none 0 ⟨0, 0, 0, 0⟩)
noncomputable def sB (s : Stmt) : List Stmt := (stParts s).2.1
noncomputable def sE (s : Stmt) : List Stmt := (stParts s).2.2
noncomputable def defOfS (s : Stmt) : Option DefRec := s.casesOn (motive_2 := fun zz => Option DefRec) (fun a b c d e f g h i j => some ⟨a, b, c, g, j⟩) (fun a a a a a a a a a a => none) (fun a a a a a a a a a a a => none) (fun a a => none) (fun a a => none) (fun a a a => none) (fun a a a a a a a => none) (fun a a a a => none) (fun a a a a a => none) (fun a a a a a => none) (fun a a a a a => none) (fun a a a a => none) (fun a a a a => none) (fun a a a => none) (fun a a a => none) (fun a a a => none) (fun a a a => none) (fun a a a a a => none) (fun a a a a a => none) (fun a a a => none) (fun a a => none) (fun a a a a => none) (fun a a => none) (fun a a => none) (fun a a => none) (fun a => none) (fun a => none) (fun a => none)
noncomputable def theDefs : List DefRec := PySem.Challenge.pw_ph0103_01.main.body.filterMap defOfS
noncomputable def findD (f : Str) : Option DefRec := theDefs.find? (fun d => d.name == f)
noncomputable def lscP : Scope := match findD "_law_text" with | some d => d.scope | none => default
noncomputable def glP (x : Str) : Option UInt64 := if x == "ONE_THIRD" then some 4599676419421066581 else if x == "ONE_SIXTH" then some 4595172819793696085 else if x == "TWO_THIRD" then some 4604180019048437077 else none
noncomputable abbrev PhG := (Str → List D → Option D) × (Str → List D → Option (List D))
noncomputable def mkK (p : PhG) : Know := ⟨p.1, p.2, glP, lscP, (170, 70)⟩
noncomputable def PG : Nat → PhG
  | 0 => (fun zz zz => none, fun zz zz => none)
  | m + 1 => (fun f args => match args, findD f with
      | _ :: _, some d => if d.scope.isGenerator then none else runD (mkK (PG m)) 60 d args
      | _, _ => none,
    fun f args => match args, findD f with
      | [.str s], some d => if d.scope.isGenerator then (setAll (fun zz => none) (d.params.args.map (·.arg)) [.str s]).bind fun σ => (gxs (mkK (PG m)) true 60 d.scope σ d.body).map (·.1) else none
      | _, _ => none)
noncomputable def KK (m : Nat) : Know := mkK (PG m)
end Mine
end

section
open PySem PySem.W PyProof.Rows
set_option maxRecDepth 100000
namespace Mine

noncomputable abbrev Fr2 := List (Str × D)
noncomputable def getL : Fr2 → Str → Option D
  | [], _ => none
  | (y, d) :: r, x => if x = y then some d else getL r x
noncomputable def Sg (l : Fr2) : Sig := fun y => getL l y
noncomputable def ins (x : Str) (d : D) : Fr2 → Fr2
  | [] => [(x, d)]
  | (y, e) :: r => if x = y then (y, d) :: r else (y, e) :: ins x d r
set_option tactic.hygienic false
theorem set_Sg (l : Fr2) (x : Str) (d : D) : Sig.set (Sg l) x d = Sg (ins x d l) := by
  funext y
  induction l with
  | nil => simp only [Sig.set, Sg, ins, getL]
  | cons p r ih =>
    obtain ⟨z, e⟩ := p
    simp only [Sig.set, Sg, ins, getL] at ih ⊢
    by_cases h : x = z
    · subst h
      rw [if_pos rfl]
      simp only [getL]
      by_cases h2 : y = x
      · simp [h2]
      · simp [h2]
    · rw [if_neg h]
      simp only [getL]
      by_cases h2 : y = z
      · have : y ≠ x := fun q => h (q ▸ h2)
        simp [h2, Ne.symm h]
      · simp only [h2, if_false]
        rw [← ih]
theorem Sg_nil : (fun zz => none : Sig) = Sg [] := rfl

noncomputable def setAllL : Fr2 → List Str → List D → Option Fr2
  | l, [], [] => some l
  | l, x :: xs, d :: ds => setAllL (ins x d l) xs ds
  | _, _, _ => none
theorem setAll_Sg : ∀ (l : Fr2) (xs : List Str) (ds : List D), setAll (Sg l) xs ds = (setAllL l xs ds).map Sg
  | l, [], [] => rfl
  | l, [], _ :: _ => rfl
  | l, _ :: _, [] => rfl
  | l, x :: xs, d :: ds => by
    show setAll (Sig.set (Sg l) x d) xs ds = (setAllL (ins x d l) xs ds).map Sg
    rw [set_Sg]
    exact setAll_Sg _ xs ds
noncomputable def bindTL (sc : Scope) (t : Expr) (d : D) (l : Fr2) : Option Fr2 := match t with
  | .Name x _ => if stOk sc x then some (ins x d l) else none
  | .Tuple ts _ _ => match namesOf ts, d with
    | some xs, .list ds => if ds.length == xs.length && xs.all (stOk sc) then setAllL l xs ds else none
    | some xs, .tup ds => if ds.length == xs.length && xs.all (stOk sc) then setAllL l xs ds else none
    | _, _ => none
  | _ => none
noncomputable def BT (sc : Scope) (d : D) (l : Fr2) (t : Expr) : Prop := bindT sc t d (Sg l) = (bindTL sc t d l).map Sg
theorem btNo {sc : Scope} {d : D} {l : Fr2} {t : Expr} (h1 : bindT sc t d (Sg l) = none) (h2 : bindTL sc t d l = none) : BT sc d l t := by
  unfold BT; rw [h1, h2]; rfl
theorem bt_all {sc : Scope} {d : D} {l : Fr2} (t : Expr) : BT sc d l t := by
  induction t using Expr.casesOn with
  | Name x p =>
    show (if stOk sc x = true then some (Sig.set (Sg l) x d) else none) = (if stOk sc x = true then some (ins x d l) else none).map Sg
    split
    · rw [set_Sg]; rfl
    · rfl
  | Tuple ts k p =>
    show (match (generalizing := false) namesOf ts, d with
      | some xs, .list ds => if (ds.length == xs.length && xs.all (stOk sc)) = true then setAll (Sg l) xs ds else none
      | some xs, .tup ds => if (ds.length == xs.length && xs.all (stOk sc)) = true then setAll (Sg l) xs ds else none
      | _, _ => none) = (match (generalizing := false) namesOf ts, d with
      | some xs, .list ds => if (ds.length == xs.length && xs.all (stOk sc)) = true then setAllL l xs ds else none
      | some xs, .tup ds => if (ds.length == xs.length && xs.all (stOk sc)) = true then setAllL l xs ds else none
      | _, _ => none).map Sg
    cases namesOf ts with
    | none => rfl
    | some xs =>
      induction d using D.casesOn with
      | list ds =>
        show (if (ds.length == xs.length && xs.all (stOk sc)) = true then setAll (Sg l) xs ds else none) = (if (ds.length == xs.length && xs.all (stOk sc)) = true then setAllL l xs ds else none).map Sg
        split
        · exact setAll_Sg l xs ds
        · rfl
      | tup ds =>
        show (if (ds.length == xs.length && xs.all (stOk sc)) = true then setAll (Sg l) xs ds else none) = (if (ds.length == xs.length && xs.all (stOk sc)) = true then setAllL l xs ds else none).map Sg
        split
        · exact setAll_Sg l xs ds
        · rfl
      | _ => rfl
  | _ => exact btNo (Eq.refl none) (Eq.refl none)
theorem bindT_Sg {sc : Scope} {t : Expr} {d : D} {l l' : Fr2} (h : bindTL sc t d l = some l') : bindT sc t d (Sg l) = some (Sg l') :=
  (bt_all t).trans (congrArg (Option.map Sg) h)

noncomputable abbrev up (r : Fl × Fr2) : Fl × Sig := (r.1, Sg r.2)
noncomputable def loopDL (sc : Scope) (body : Fr2 → Option (Fl × Fr2)) (t : Expr) : List D → Fr2 → Option (Fl × Fr2)
  | [], l => some (.next, l)
  | d :: ds, l => (bindTL sc t d l).bind fun l' => (body l').bind fun r => match r with
    | (.next, l'') => loopDL sc body t ds l''
    | (.ret d, l'') => some (.ret d, l'')
theorem loopD_Sg {sc : Scope} {body : Sig → Option (Fl × Sig)} {bodyL : Fr2 → Option (Fl × Fr2)} (h : ∀ l r, bodyL l = some r → body (Sg l) = some (up r)) (t : Expr) : ∀ (ds : List D) (l : Fr2) (r : Fl × Fr2), loopDL sc bodyL t ds l = some r → loopD sc body t ds (Sg l) = some (up r)
  | [], l, r, e => by simp only [loopDL] at e; cases e; rfl
  | d :: ds, l, r, e => by
    simp only [loopDL] at e
    rw [Option.bind_eq_some_iff] at e
    obtain ⟨l', e1, e⟩ := e
    rw [Option.bind_eq_some_iff] at e
    obtain ⟨⟨f, l''⟩, e2, e⟩ := e
    simp only [loopD, bindT_Sg e1, Option.bind_some, h _ _ e2, up]
    cases f with
    | next => exact loopD_Sg h t ds l'' r e
    | ret d => cases e; rfl

mutual
noncomputable def exL (K : Know) : Nat → Scope → Fr2 → Stmt → Option (Fl × Fr2)
  | 0, _, _, _ => none
  | n + 1, sc, l, st => match st with
    | .Assign [t] value _ => if isTup t && isTup value then none else (ev K n sc (Sg l) value).bind fun d => (bindTL sc t d l).map fun l' => (.next, l')
    | .AugAssign (.Name x _) op value _ => if !(stOk sc x) then none else (Sg l x).bind fun a => (ev K n sc (Sg l) value).bind fun b => match op, a, b with
        | .Add, .int i, .int j => some (.next, ins x (.int (i + j)) l)
        | .Sub, .int i, .int j => some (.next, ins x (.int (i - j)) l)
        | .Add, .str s, .str t => (strD (s ++ t)).map fun d => (.next, ins x d l)
        | _, _, _ => none
    | .If test body orelse _ => (tr K n sc (Sg l) test).bind fun b => if b then exsL K n sc l body else exsL K n sc l orelse
    | .For t it body [] _ => (itE K (ev K n sc (Sg l)) sc it).bind fun ds => (loopDL sc (fun l => exsL K n sc l body) t ds l).bind fun r => match r with
        | (.next, l') => some (.next, l')
        | (.ret d, l') => if genCall it then none else some (.ret d, l')
    | .Return (some e) _ => (ev K n sc (Sg l) e).map fun d => (.ret d, l)
    | _ => none
noncomputable def exsL (K : Know) : Nat → Scope → Fr2 → List Stmt → Option (Fl × Fr2)
  | 0, _, _, _ => none
  | _ + 1, _, l, [] => some (.next, l)
  | n + 1, sc, l, st :: rest => (exL K n sc l st).bind fun r => match r with
    | (.next, l') => exsL K n sc l' rest
    | (.ret d, l') => some (.ret d, l')
end

theorem ex_sim (K : Know) (sc : Scope) : ∀ n, (∀ st l r, exL K n sc l st = some r → ex K n sc (Sg l) st = some (up r)) ∧ (∀ sts l r, exsL K n sc l sts = some r → exs K n sc (Sg l) sts = some (up r)) := by
  intro n
  induction n with
  | zero => exact ⟨fun st l r h => noneE h, fun sts l r h => noneE h⟩
  | succ n ih =>
    obtain ⟨ih1, ih2⟩ := ih
    constructor
    · intro st l r h
      obtain (⟨t, value, p, rfl⟩ | ⟨x, px, op, value, pos, rfl⟩ | ⟨t, b, e, p, rfl⟩ | ⟨t, it, body, pos, rfl⟩ | ⟨e, p, rfl⟩) | hn := ex_view st
      · by_cases ht : (isTup t && isTup value) = true
        · exact noneE ((if_pos ht).symm.trans h)
        · obtain ⟨d, h1, h4⟩ := Option.bind_eq_some_iff.mp ((if_neg ht).symm.trans h)
          obtain ⟨l', h2, rfl⟩ := Option.map_eq_some_iff.mp h4
          refine (if_neg ht).trans ?_
          rw [h1, Option.bind_some, bindT_Sg h2]; rfl
      · by_cases hx : (!(stOk sc x)) = true
        · exact noneE ((if_pos hx).symm.trans h)
        · obtain ⟨a, h1, h4⟩ := Option.bind_eq_some_iff.mp ((if_neg hx).symm.trans h)
          obtain ⟨b, h2, h3⟩ := Option.bind_eq_some_iff.mp h4
          clear h4 h
          refine (if_neg hx).trans ?_
          rw [h1, Option.bind_some, h2, Option.bind_some]
          split at h3
          · cases h3; try dsimp only
            rw [set_Sg]
          · cases h3; try dsimp only
            rw [set_Sg]
          · rw [Option.map_eq_some_iff] at h3
            obtain ⟨d, h3, rfl⟩ := h3
            try dsimp only
            rw [h3, Option.map_some, set_Sg]
          · cases h3
      · obtain ⟨b', h1, h2⟩ := Option.bind_eq_some_iff.mp h
        show (tr K n sc (Sg l) t).bind _ = _
        rw [h1, Option.bind_some]
        cases b'
        · exact ih2 _ _ _ h2
        · exact ih2 _ _ _ h2
      · obtain ⟨ds, h1, h4⟩ := Option.bind_eq_some_iff.mp h
        obtain ⟨⟨f, l'⟩, h2, h3⟩ := Option.bind_eq_some_iff.mp h4
        clear h4 h
        show (itE K (ev K n sc (Sg l)) sc it).bind _ = _
        rw [h1, Option.bind_some, loopD_Sg (fun l r => ih2 body l r) t ds l _ h2, Option.bind_some]
        cases f with
        | next => cases h3; rfl
        | ret d =>
          by_cases hg : genCall it = true
          · exact noneE ((if_pos hg).symm.trans h3)
          · cases (if_neg hg).symm.trans h3; exact if_neg hg
      · obtain ⟨d, h1, rfl⟩ := Option.map_eq_some_iff.mp h
        show (ev K n sc (Sg l) e).map _ = _
        rw [h1]; rfl
      · exact noneE ((hn _ _ _ _ _ _ _).symm.trans h)
    · intro sts l r h
      cases sts with
      | nil => cases h; rfl
      | cons st rest =>
        obtain ⟨⟨f, l'⟩, h1, h⟩ := Option.bind_eq_some_iff.mp h
        show (ex K n sc (Sg l) st).bind _ = _
        rw [ih1 _ _ _ h1, Option.bind_some]
        cases f with
        | next => exact ih2 _ _ _ h
        | ret d => cases h; rfl

noncomputable def runL (K : Know) (n : Nat) (d : DefRec) (args : List D) : Option D :=
  (setAllL [] (d.params.args.map (·.arg)) args).bind fun l => (exsL K n d.scope l d.body).bind fun r => match r with
    | (.ret v, _) => some v
    | (.next, _) => some .none
theorem runD_of {K : Know} {n : Nat} {d : DefRec} {args : List D} {v : D} (h : runL K n d args = some v) : runD K n d args = some v := by
  unfold runL at h
  unfold runD
  rw [Option.bind_eq_some_iff] at h
  obtain ⟨l, h1, h⟩ := h
  rw [Option.bind_eq_some_iff] at h
  obtain ⟨⟨f, l'⟩, h2, h⟩ := h
  rw [Sg_nil, setAll_Sg, h1, Option.map_some, Option.bind_some, (ex_sim K d.scope n).2 _ _ _ h2, Option.bind_some]
  cases f <;> exact h

noncomputable abbrev upG (r : List D × Fr2) : List D × Sig := (r.1, Sg r.2)
noncomputable def gloopL (body : Fr2 → Option (List D × Fr2)) (x y : Str) : Nat → List Nat → Fr2 → Option (List D × Fr2)
  | _, [], l => some ([], l)
  | i, ch :: r, l => (body (ins y (.str ⟨#[ch]⟩) (ins x (.int i) l))).bind fun q => (gloopL body x y (i + 1) r q.2).map fun q' => (q.1 ++ q'.1, q'.2)
theorem gloop_Sg {body : Sig → Option (List D × Sig)} {bodyL : Fr2 → Option (List D × Fr2)} (h : ∀ l r, bodyL l = some r → body (Sg l) = some (upG r)) (x y : Str) : ∀ (cs : List Nat) (i : Nat) (l : Fr2) (r : List D × Fr2), gloopL bodyL x y i cs l = some r → gloop body x y i cs (Sg l) = some (upG r)
  | [], i, l, r, e => by simp only [gloopL] at e; cases e; rfl
  | c :: cs, i, l, r, e => by
    simp only [gloopL] at e
    rw [Option.bind_eq_some_iff] at e
    obtain ⟨q, e1, e⟩ := e
    rw [Option.map_eq_some_iff] at e
    obtain ⟨q', e2, rfl⟩ := e
    simp only [gloop, set_Sg, h _ _ e1, Option.bind_some]
    rw [gloop_Sg h x y cs (i + 1) q.2 _ e2]; rfl
mutual
noncomputable def gxL (K : Know) (top : Bool) : Nat → Scope → Fr2 → Stmt → Option (List D × Fr2)
  | 0, _, _, _ => none
  | n + 1, sc, l, st => match st with
    | .If test body orelse _ => (tr K n sc (Sg l) test).bind fun b => gxsL K top n sc l (if b then body else orelse)
    | .For (.Tuple [.Name x _, .Name y _] _ _) (.Call (.Name f _) [e] [] _) body [] _ =>
        if top && f == "enumerate" && isGlob sc f && stOk sc x && stOk sc y then (ev K n sc (Sg l) e).bind fun d => match d with
          | .str s => gloopL (fun l => gxsL K false n sc l body) x y 0 s.cps.toList l
          | _ => none
        else none
    | .Expr (.Yield (some e) _) _ => (ev K n sc (Sg l) e).bind fun d => match d with
        | .tup [.int i, .str u] => some ([.tup [.int i, .str u]], l)
        | _ => none
    | .Assign [.Name x _] value _ => if stOk sc x then (ev K n sc (Sg l) value).bind fun d => if flatD d then some ([], ins x d l) else none else none
    | _ => none
noncomputable def gxsL (K : Know) (top : Bool) : Nat → Scope → Fr2 → List Stmt → Option (List D × Fr2)
  | 0, _, _, _ => none
  | _ + 1, _, l, [] => some ([], l)
  | n + 1, sc, l, st :: rest => (gxL K top n sc l st).bind fun q => (gxsL K top n sc q.2 rest).map fun q' => (q.1 ++ q'.1, q'.2)
end
set_option tactic.hygienic true
theorem gx_sim (K : Know) (sc : Scope) : ∀ n, (∀ top st l r, gxL K top n sc l st = some r → gx K top n sc (Sg l) st = some (upG r)) ∧ (∀ top sts l r, gxsL K top n sc l sts = some r → gxs K top n sc (Sg l) sts = some (upG r)) := by
  intro n
  induction n with
  | zero => exact ⟨fun top st l r h => noneE h, fun top sts l r h => noneE h⟩
  | succ n ih =>
    obtain ⟨ih1, ih2⟩ := ih
    constructor
    · intro top st l r h
      obtain (⟨t, b, e, p, rfl⟩ | ⟨x, px, y, py, kk, tp, f, fp, e, cp, body, p, rfl⟩ | ⟨e, p, q, rfl⟩ | ⟨x, p, v, q, rfl⟩) | hn := st_view st
      · obtain ⟨b', h1, h2⟩ := Option.bind_eq_some_iff.mp h
        show (tr K n sc (Sg l) t).bind _ = _
        rw [h1]
        exact ih2 _ _ _ _ h2
      · replace h : (if (top && f == "enumerate" && isGlob sc f && stOk sc x && stOk sc y) = true then (ev K n sc (Sg l) e).bind fun d => match d with
          | .str s => gloopL (fun l => gxsL K false n sc l body) x y 0 s.cps.toList l
          | _ => none
          else none) = some r := h
        show (if (top && f == "enumerate" && isGlob sc f && stOk sc x && stOk sc y) = true then (ev K n sc (Sg l) e).bind fun d => match d with
          | .str s => gloop (fun σ => gxs K false n sc σ body) x y 0 s.cps.toList (Sg l)
          | _ => none
          else none) = _
        by_cases hc : (top && f == "enumerate" && isGlob sc f && stOk sc x && stOk sc y) = true
        · rw [if_pos hc] at h ⊢
          obtain ⟨d, h1, h2⟩ := Option.bind_eq_some_iff.mp h
          rw [h1]
          cases d <;> try (exact noneE h2; done)
          exact gloop_Sg (fun l r => ih2 false body l r) _ _ _ _ _ _ h2
        · rw [if_neg hc] at h; cases h
      · obtain ⟨d, h1, h2⟩ := Option.bind_eq_some_iff.mp h
        show (ev K n sc (Sg l) e).bind _ = _
        rw [h1]
        show (match (d : D) with
          | .tup [.int i, .str u] => some ([D.tup [.int i, .str u]], Sg l)
          | _ => none) = _
        split at h2
        · cases h2; rfl
        · cases h2
      · replace h : (if stOk sc x = true then (ev K n sc (Sg l) v).bind fun d => if flatD d = true then some ([], ins x d l) else none else none) = some r := h
        show (if stOk sc x = true then (ev K n sc (Sg l) v).bind fun d => if flatD d = true then some ([], Sig.set (Sg l) x d) else none else none) = _
        split at h
        · rename_i hc
          obtain ⟨d, h1, h2⟩ := Option.bind_eq_some_iff.mp h
          rw [if_pos hc, h1, Option.bind_some]
          split at h2
          · rename_i hf; cases h2; rw [if_pos hf, set_Sg]
          · cases h2
        · cases h
      · exact noneE ((hn _ _ _ _ _ _).symm.trans h)
    · intro top sts l r h
      cases sts with
      | nil => cases h; rfl
      | cons st rest =>
        obtain ⟨q, h1, h⟩ := Option.bind_eq_some_iff.mp h
        obtain ⟨q', h2, rfl⟩ := Option.map_eq_some_iff.mp h
        show (gx K top n sc (Sg l) st).bind _ = _
        rw [ih1 _ _ _ _ h1, Option.bind_some]
        show (gxs K top n sc (Sg q.2) rest).map _ = _
        rw [ih2 _ _ _ _ h2]; rfl
noncomputable def runG (K : Know) (n : Nat) (d : DefRec) (args : List D) : Option (List D) :=
  (setAllL [] (d.params.args.map (·.arg)) args).bind fun l => (gxsL K true n d.scope l d.body).map (·.1)
set_option tactic.hygienic false
theorem runG_of {K : Know} {n : Nat} {d : DefRec} {args : List D} {r : List D} (h : runG K n d args = some r) : ((setAll (fun zz => none) (d.params.args.map (·.arg)) args).bind fun σ => (gxs K true n d.scope σ d.body).map (·.1)) = some r := by
  unfold runG at h
  rw [Option.bind_eq_some_iff] at h
  obtain ⟨l, h1, h⟩ := h
  rw [Option.map_eq_some_iff] at h
  obtain ⟨q, h2, rfl⟩ := h
  rw [Sg_nil, setAll_Sg, h1, Option.map_some, Option.bind_some, (gx_sim K d.scope n).2 _ _ _ _ h2]; rfl

theorem exsL_cons (K : Know) (n : Nat) (sc : Scope) (l : Fr2) (st : Stmt) (rest : List Stmt) {l' : Fr2} (h : exL K n sc l st = some (.next, l')) : exsL K (n + 1) sc l (st :: rest) = exsL K n sc l' rest := by
  show (exL K n sc l st).bind _ = _; rw [h]; rfl
theorem exsL_ret (K : Know) (n : Nat) (sc : Scope) (l : Fr2) (st : Stmt) (rest : List Stmt) {l' : Fr2} {d : D} (h : exL K n sc l st = some (.ret d, l')) : exsL K (n + 1) sc l (st :: rest) = some (.ret d, l') := by
  show (exL K n sc l st).bind _ = _; rw [h]; rfl
theorem compL_cons {f : Sig → Option (List D)} {sc : Scope} {t : Expr} {tr : Sig → Expr → Option Bool} {ifs : List Expr} {σ : Sig} (d : D) (ds : List D) : compL f sc t tr ifs σ (d :: ds) = (compL f sc t tr ifs σ [d]).bind fun a => (compL f sc t tr ifs σ ds).map (a ++ ·) := by
  simp only [compL]
  split
  · cases bindT sc t d σ with
    | none => rfl
    | some σ' =>
      simp only [Option.bind_some]
      cases ifsT (tr σ') ifs with
      | none => rfl
      | some b =>
        simp only [Option.bind_some]
        cases b
        · simp
        · simp only [if_true]
          cases f σ' with
          | none => rfl
          | some here => simp
  · rfl
theorem compL_map {f : Sig → Option (List D)} {sc : Scope} {t : Expr} {tr : Sig → Expr → Option Bool} {ifs : List Expr} {σ : Sig} {α : Type} (enc : α → D) (p : α → Bool) (g : α → D) : ∀ (xs : List α), (∀ a ∈ xs, compL f sc t tr ifs σ [enc a] = if p a = true then some [g a] else some []) →
    compL f sc t tr ifs σ (xs.map enc) = some ((xs.filter p).map g)
  | [], _ => rfl
  | x :: xs, h => by
    rw [List.map_cons, compL_cons, h x (by simp), compL_map enc p g xs fun a ha => h a (List.mem_cons_of_mem _ ha), List.filter_cons]
    cases p x <;> simp
theorem compL_all {f : Sig → Option (List D)} {sc : Scope} {t : Expr} {tr : Sig → Expr → Option Bool} {ifs : List Expr} {σ : Sig} {α : Type} (enc : α → D) (g : α → D) : ∀ (xs : List α), (∀ a ∈ xs, compL f sc t tr ifs σ [enc a] = some [g a]) →
    compL f sc t tr ifs σ (xs.map enc) = some (xs.map g)
  | [], _ => rfl
  | x :: xs, h => by
    rw [List.map_cons, compL_cons, h x (by simp), compL_all enc g xs fun a ha => h a (List.mem_cons_of_mem _ ha)]
    simp

noncomputable def S (l : List Nat) : D := .str ⟨l.toArray⟩
theorem str_app (a b : List Nat) : (⟨a.toArray⟩ ++ ⟨b.toArray⟩ : Str) = ⟨(a ++ b).toArray⟩ := by
  show Str.append _ _ = _
  unfold Str.append
  simp
theorem str_len (a : List Nat) : (⟨a.toArray⟩ : Str).length = a.length := by simp [Str.length]
theorem strD_S {a : List Nat} (h : a.length ≤ big) : strD ⟨a.toArray⟩ = some (S a) := by
  unfold strD; rw [str_len, if_pos h]; rfl

noncomputable def theD (f : Str) : DefRec := match findD f with | some d => d | none => ⟨f, ⟨[], [], none, [], [], none, []⟩, [], lscP, ⟨0, 0, 0, 0⟩⟩
noncomputable def stAt (b : List Stmt) (i : Nat) : Stmt := (b[i]?).getD (.Pass ⟨0, 0, 0, 0⟩)
noncomputable def forBody (s : Stmt) : List Stmt := sB s
noncomputable def forT (s : Stmt) : Expr := sx s 1
end Mine
end

section
open PySem PySem.W PyProof.Rows
set_option maxRecDepth 100000
namespace Mine

noncomputable def colL (k : Nat) : List D := if k == 0 then [.flt 4607182418800017408, .flt 0, .flt 0] else if k == 1 then [.flt 0, .flt 4607182418800017408, .flt 0] else if k == 2 then [.flt 0, .flt 0, .flt 4607182418800017408] else [.flt 0, .flt 0, .flt 0]
noncomputable def colD (k : Nat) : D := .list (colL k)
end Mine
end

section
open PySem PySem.W PyProof.Rows
set_option maxRecDepth 100000
set_option maxHeartbeats 4000000
namespace Mine
variable {K : Know} {n : Nat} {sc : Scope} {l l' : Fr2} {st : Stmt} {b rest : List Stmt} {r : Option (Fl × Fr2)} {d : D}

set_option tactic.hygienic false
theorem sc_next (hb : b = st :: rest) (h1 : exL K n sc l st = some (.next, l')) (h2 : exsL K n sc l' rest = r) : exsL K (n + 1) sc l b = r := by
  subst hb; show (exL K n sc l st).bind _ = _; rw [h1]; exact h2
theorem sc_ret (hb : b = st :: rest) (h1 : exL K n sc l st = some (.ret d, l')) : exsL K (n + 1) sc l b = some (.ret d, l') := by
  subst hb; show (exL K n sc l st).bind _ = _; rw [h1]; rfl
theorem sc_nil (hb : b = []) : exsL K (n + 1) sc l b = some (.next, l) := by subst hb; rfl
theorem x_asg {t v : Expr} {p : Pos} (hst : st = .Assign [t] v p) (ht : (isTup t && isTup v) = false) (he : ev K n sc (Sg l) v = some d) (hb : bindTL sc t d l = some l') : exL K (n + 1) sc l st = some (.next, l') := by
  subst hst; refine (if_neg (by rw [ht]; simp)).trans ?_; rw [he, Option.bind_some, hb]; rfl
theorem x_ift {t : Expr} {b e : List Stmt} {p : Pos} (hst : st = .If t b e p) (ht : tr K n sc (Sg l) t = some true) (h : exsL K n sc l b = r) : exL K (n + 1) sc l st = r := by
  subst hst; show (tr K n sc (Sg l) t).bind _ = _; rw [ht]; exact h
theorem x_iff {t : Expr} {b e : List Stmt} {p : Pos} (hst : st = .If t b e p) (ht : tr K n sc (Sg l) t = some false) (h : exsL K n sc l e = r) : exL K (n + 1) sc l st = r := by
  subst hst; show (tr K n sc (Sg l) t).bind _ = _; rw [ht]; exact h
theorem x_for {t it : Expr} {b : List Stmt} {p : Pos} {ds : List D} (hst : st = .For t it b [] p) (hit : itE K (ev K n sc (Sg l)) sc it = some ds) (hl : loopDL sc (fun l => exsL K n sc l b) t ds l = some (.next, l')) : exL K (n + 1) sc l st = some (.next, l') := by
  subst hst; show (itE K (ev K n sc (Sg l)) sc it).bind _ = _; rw [hit, Option.bind_some, hl]; rfl
theorem x_forret {t it : Expr} {b : List Stmt} {p : Pos} {ds : List D} (hst : st = .For t it b [] p) (hg : genCall it = false) (hit : itE K (ev K n sc (Sg l)) sc it = some ds) (hl : loopDL sc (fun l => exsL K n sc l b) t ds l = some (.ret d, l')) : exL K (n + 1) sc l st = some (.ret d, l') := by
  subst hst; show (itE K (ev K n sc (Sg l)) sc it).bind _ = _; rw [hit, Option.bind_some, hl]; exact if_neg (by rw [hg]; simp)
theorem x_ret {e : Expr} {p : Pos} (hst : st = .Return (some e) p) (he : ev K n sc (Sg l) e = some d) : exL K (n + 1) sc l st = some (.ret d, l) := by
  subst hst; show (ev K n sc (Sg l) e).map _ = _; rw [he]; rfl
theorem lp_next {sc : Scope} {body : Fr2 → Option (Fl × Fr2)} {t : Expr} {ds : List D} {l1 l2 : Fr2} (hb : bindTL sc t d l = some l1) (h1 : body l1 = some (.next, l2)) (h2 : loopDL sc body t ds l2 = r) : loopDL sc body t (d :: ds) l = r := by
  rw [loopDL, hb, Option.bind_some, h1]; exact h2
theorem lp_ret {sc : Scope} {body : Fr2 → Option (Fl × Fr2)} {t : Expr} {ds : List D} {l1 l2 : Fr2} {v : D} (hb : bindTL sc t d l = some l1) (h1 : body l1 = some (.ret v, l2)) : loopDL sc body t (d :: ds) l = some (.ret v, l2) := by
  rw [loopDL, hb, Option.bind_some, h1]; rfl
theorem run_ret {dr : DefRec} {args : List D} {v : D} (hs : setAllL [] (dr.params.args.map (·.arg)) args = some l) (h : exsL K n dr.scope l dr.body = some (.ret v, l')) : runL K n dr args = some v := by
  unfold runL; rw [hs, Option.bind_some, h]; rfl
theorem Phi_of {m : Nat} {f : Str} {dr : DefRec} {a : D} {as : List D} {v : D} (hd : findD f = some dr) (hg : dr.scope.isGenerator = false) (h : runL (KK m) 60 dr (a :: as) = some v) : (KK (m + 1)).Φ f (a :: as) = some v := by
  show (match (a :: as), findD f with
      | _ :: _, some d => if d.scope.isGenerator then none else runD (mkK (PG m)) 60 d (a :: as)
      | _, _ => none) = _
  rw [hd]; dsimp only; rw [hg]; exact runD_of h

noncomputable def WFu (u : List Nat) : Prop := (∃ c, u = [c] ∧ c ≠ 92) ∨ ∃ c, u = [92, c]
noncomputable def pairs : Int → List (List Nat) → List (Int × Str)
  | _, [] => []
  | i, u :: us => (i + (u.length : Int) - 1, ⟨u.toArray⟩) :: pairs (i + u.length) us
noncomputable def encP (p : Int × Str) : D := .tup [.int p.1, .str p.2]
theorem pairs_map : ∀ (us : List (List Nat)) (i : Int), (pairs i us).map (fun p => D.str p.2) = us.map S
  | [], i => rfl
  | u :: us, i => by simp only [pairs, List.map_cons, pairs_map us]; rfl

noncomputable def itD : DefRec := theD "_iter_escaped_chars"
noncomputable def itBody : List Stmt := forBody (stAt itD.body 2)
noncomputable def fr0 (d : D) (i : Int) : Fr2 := [("addr", d), ("pos", .int i), ("escape", .bool false)]
noncomputable def frI (d : D) (i : Int) (b : Bool) (c : Nat) : Fr2 := [("addr", d), ("pos", .int i), ("escape", .bool b), ("ch", .str ⟨#[c]⟩)]
theorem it_esc (d : D) (i : Int) (c : Nat) : gxsL K false 56 itD.scope (frI d i true c) itBody = some ([D.tup [.int i, .str ⟨#[92, c]⟩]], frI d i false c) := by
  rfl
theorem it_bs (d : D) (i : Int) : gxsL K false 56 itD.scope (frI d i false 92) itBody = some ([], frI d i true 92) := by
  rfl
theorem strEq1 {c e : Nat} (h : c ≠ e) : ((⟨#[c]⟩ : Str) == ⟨#[e]⟩) = false := by
  rw [beq_eq_false_iff_ne]; intro q; injection q with q; injection q with q; injection q with q; exact h q
theorem g_next {top : Bool} {n : Nat} {sc : Scope} {l l' l'' : Fr2} {st : Stmt} {b rest : List Stmt} {o o' : List D} (hb : b = st :: rest) (h1 : gxL K top n sc l st = some (o, l')) (h2 : gxsL K top n sc l' rest = some (o', l'')) : gxsL K top (n + 1) sc l b = some (o ++ o', l'') := by
  subst hb; show (gxL K top n sc l st).bind _ = _; rw [h1, Option.bind_some]; show (gxsL K top n sc l' rest).map _ = _; rw [h2]; rfl
theorem g_nil {top : Bool} {n : Nat} {sc : Scope} {l : Fr2} {b : List Stmt} (hb : b = []) : gxsL K top (n + 1) sc l b = some ([], l) := by subst hb; rfl
theorem g_iff {top : Bool} {n : Nat} {sc : Scope} {l : Fr2} {st : Stmt} {t : Expr} {b e : List Stmt} {p : Pos} {r : Option (List D × Fr2)} (hst : st = .If t b e p) (ht : tr K n sc (Sg l) t = some false) (h : gxsL K top n sc l e = r) : gxL K top (n + 1) sc l st = r := by
  subst hst; show (tr K n sc (Sg l) t).bind _ = _; rw [ht]; exact h
theorem it_ch (d : D) (i : Int) (c : Nat) (hc : c ≠ 92) : gxsL K false 56 itD.scope (frI d i false c) itBody = some ([D.tup [.int i, .str ⟨#[c]⟩]], frI d i false c) := by
  refine g_next (o := [D.tup [.int i, .str ⟨#[c]⟩]]) (o' := []) rfl (g_iff rfl rfl ?_) (g_nil rfl)
  refine g_next (o := [D.tup [.int i, .str ⟨#[c]⟩]]) (o' := []) rfl (g_iff rfl ?_ rfl) (g_nil rfl)
  have : tr K 52 itD.scope (Sg (frI d i false c)) (sx (stAt (sE (stAt itBody 0)) 0) 0) = some ((⟨#[c]⟩ : Str) == ⟨#[92]⟩) := rfl
  rw [strEq1 hc] at this
  exact this
noncomputable def shape (d : D) (l : Fr2) : Prop := (∃ p, l = fr0 d p) ∨ ∃ p c, l = frI d p false c
theorem shape_ins {d : D} {l : Fr2} (h : shape d l) (i : Int) (c : Nat) : ins "ch" (.str ⟨#[c]⟩) (ins "pos" (.int i) l) = frI d i false c := by
  rcases h with ⟨p, rfl⟩ | ⟨p, c', rfl⟩ <;> rfl
theorem it_loop (d : D) : ∀ (us : List (List Nat)) (i : Nat) (l : Fr2), (∀ u ∈ us, WFu u) → shape d l → ∃ l', shape d l' ∧ gloopL (fun l => gxsL K false 56 itD.scope l itBody) "pos" "ch" i us.flatten l = some ((pairs i us).map encP, l')
  | [], i, l, _, hl => ⟨l, hl, rfl⟩
  | u :: us, i, l, hu, hl => by
    rcases hu u (by simp) with ⟨c, rfl, hc⟩ | ⟨c, rfl⟩
    · obtain ⟨l', h1, h2⟩ := it_loop d us (i + 1) (frI d i false c) (fun u h => hu u (List.mem_cons_of_mem _ h)) (.inr ⟨_, _, rfl⟩)
      refine ⟨l', h1, ?_⟩
      rw [List.flatten_cons, List.singleton_append, gloopL, shape_ins hl, it_ch _ _ _ hc, Option.bind_some, h2]
      simp only [pairs, List.map_cons, encP, Option.map_some, List.length_singleton]
      congr 3
      · simp
    · obtain ⟨l', h1, h2⟩ := it_loop d us (i + 2) (frI d (i + 1) false c) (fun u h => hu u (List.mem_cons_of_mem _ h)) (.inr ⟨_, _, rfl⟩)
      refine ⟨l', h1, ?_⟩
      have e0 : ins "ch" (.str ⟨#[c]⟩) (ins "pos" (.int (i + 1 : Nat)) (frI d i true 92)) = frI d (i + 1) true c := rfl
      rw [List.flatten_cons]
      show gloopL _ _ _ i (92 :: c :: us.flatten) l = _
      rw [gloopL, shape_ins hl, it_bs, Option.bind_some, gloopL, e0, it_esc, Option.bind_some]
      dsimp only
      rw [show i + 1 + 1 = i + 2 from rfl, h2]
      simp only [pairs, List.map_cons, encP, Option.map_some, List.nil_append, List.singleton_append]
      congr 3
      · simp; omega
theorem iter_run (us : List (List Nat)) (hu : ∀ u ∈ us, WFu u) : runG K 60 itD [S us.flatten] = some ((pairs 0 us).map encP) := by
  unfold runG
  have e1 : setAllL [] (itD.params.args.map (·.arg)) [S us.flatten] = some ([("addr", S us.flatten)] : Fr2) := rfl
  rw [e1, Option.bind_some]
  obtain ⟨l', h1, h2⟩ := it_loop (K := K) (S us.flatten) us 0 (fr0 (S us.flatten) 0) hu (.inl ⟨0, rfl⟩)
  have hfor : gxL K true 57 itD.scope (fr0 (S us.flatten) 0) (stAt itD.body 2) = gloopL (fun l => gxsL K false 56 itD.scope l itBody) "pos" "ch" 0 us.flatten (fr0 (S us.flatten) 0) := rfl
  have hend : gxsL K true 57 itD.scope l' (itD.body.drop 3) = some ([], l') := by
    rcases h1 with ⟨p, rfl⟩ | ⟨p, c, rfl⟩
    · exact g_next (o := []) (o' := []) rfl (g_iff rfl rfl rfl) (g_nil rfl)
    · exact g_next (o := []) (o' := []) rfl (g_iff rfl rfl rfl) (g_nil rfl)
  have : gxsL K true 60 itD.scope ([("addr", S us.flatten)] : Fr2) itD.body = some ([] ++ ([] ++ ((pairs 0 us).map encP ++ [])), l') :=
    g_next (o := []) (l' := ([("addr", S us.flatten), ("pos", .int 0)] : Fr2)) rfl rfl (g_next (o := []) (l' := fr0 (S us.flatten) 0) rfl rfl (g_next (n := 57) rfl (hfor.trans h2) hend))
  rw [this]
  simp
theorem iter_gamma (m : Nat) (us : List (List Nat)) (hu : ∀ u ∈ us, WFu u) : (KK (m + 1)).Γ "_iter_escaped_chars" [S us.flatten] = some ((pairs 0 us).map encP) :=
  runG_of (iter_run us hu)
end Mine
end

section
open PySem PySem.W PyProof.Rows
set_option maxRecDepth 100000
set_option maxHeartbeats 4000000
namespace Mine
variable {K : Know} {n : Nat} {sc : Scope} {σ : Sig} {l l' : Fr2} {st : Stmt} {b rest : List Stmt} {r : Option (Fl × Fr2)} {d : D}

set_option tactic.hygienic false
theorem ev_comp {e elt t it : Expr} {gens : List Comprehension} {ifs : List Expr} {scope : Scope} {p : Pos} {out : List D} (ds : List D) (he : e = .ListComp elt (⟨t, it, ifs, 0⟩ :: gens) scope p) (hc : (compOk sc scope && decide (scope ≠ K.lsc)) = true)
    (hit : itE K (ev K n sc σ) sc it = some ds) (hl : compL (compG K (ev K n scope) (tr K n scope) scope elt gens) scope t (tr K n scope) ifs (freeSig scope σ) ds = some out) (hlen : out.length ≤ big) : ev K (n + 1) sc σ e = some (.list out) := by
  subst he
  show (if (compOk sc scope && decide (scope ≠ K.lsc)) = true then (if ((0 : Nat) == 0) = true then (itE K (ev K n sc σ) sc it).bind fun ds =>
            (compL (compG K (ev K n scope) (tr K n scope) scope elt gens) scope t (tr K n scope) ifs (freeSig scope σ) ds).bind listD else none) else none) = _
  rw [if_pos hc, if_pos (by rfl), hit, Option.bind_some, hl, Option.bind_some, listD, if_pos hlen]

theorem pairs_len : ∀ (us : List (List Nat)) (i : Int), (pairs i us).length = us.length
  | [], _ => rfl
  | u :: us, i => by simp only [pairs, List.length_cons, pairs_len us]

theorem units_run (m : Nat) (us : List (List Nat)) (hu : ∀ u ∈ us, WFu u) (hb : us.length ≤ big) : (KK (m + 2)).Φ "_law_units" [S us.flatten] = some (.list (us.map S)) := by
  refine Phi_of (dr := theD "_law_units") rfl rfl (run_ret (l := ([("text", S us.flatten)] : Fr2)) rfl (sc_ret rfl (x_ret rfl (ev_comp ((pairs 0 us).map encP) rfl rfl ?_ ?_ ?_))))
  · exact iter_gamma m us hu
  · rw [← pairs_map us 0]
    exact compL_all encP (fun p => D.str p.2) (pairs 0 us) fun a zz => rfl
  · simpa using hb

theorem contains_not {x : List Nat} {c : Nat} (h : c ∉ x) : Txt.contains ⟨x.toArray⟩ ⟨#[c]⟩ = false := by
  unfold Txt.contains
  rcases StrLaws.occ_head ⟨x.toArray⟩ ⟨#[c]⟩ 1 (Nat.le_refl _) with ⟨e, _⟩ | ⟨i, r, _, ha, _⟩
  · rw [e]; rfl
  · have := (StrLaws.subAt_one _ c i).mp ha
    exact absurd (List.mem_of_getElem? this) (by simpa using h)
theorem strip_run (m : Nat) (cs : List Nat) (h : (34 : Nat) ∉ cs) : (KK (m + 1)).Φ "_strip_quoted_realnames" [S cs] = some (S cs) := by
  refine Phi_of (dr := theD "_strip_quoted_realnames") rfl rfl (run_ret (l := ([("addr", S cs)] : Fr2)) rfl (sc_ret rfl (x_ift rfl (?_) (sc_ret (l' := [("addr", S cs)]) rfl (x_ret rfl rfl)))))
  have : ∀ b, Txt.contains ⟨cs.toArray⟩ ⟨#[34]⟩ = b → tr (KK m) 58 (theD "_strip_quoted_realnames").scope (Sg [("addr", S cs)]) (sx (stAt (theD "_strip_quoted_realnames").body 0) 0) = some (!b) := by
    rintro b rfl; rfl
  exact this _ (contains_not h)
end Mine
end

section
open PySem PySem.W PyProof.Rows
set_option maxRecDepth 100000
set_option maxHeartbeats 4000000
namespace Mine
variable {K : Know} {n : Nat} {sc : Scope} {σ : Sig} {l l' : Fr2} {st : Stmt} {b rest : List Stmt} {r : Option (Fl × Fr2)} {d : D}

set_option tactic.hygienic false
theorem x_aug {x : Str} {px p : Pos} {op : Operator} {v : Expr} {i j : Int} (k : Int) (hst : st = .AugAssign (.Name x px) op v p) (hx : stOk sc x = true) (h1 : Sg l x = some (.int i)) (h2 : ev K n sc (Sg l) v = some (.int j)) (hk : (op = .Add ∧ k = i + j) ∨ (op = .Sub ∧ k = i - j)) :
    exL K (n + 1) sc l st = some (.next, ins x (.int k) l) := by
  subst hst
  refine (if_neg (by rw [hx]; simp)).trans ?_
  rw [h1, Option.bind_some, h2, Option.bind_some]
  rcases hk with ⟨rfl, rfl⟩ | ⟨rfl, rfl⟩ <;> rfl
theorem strEqL {u w : List Nat} (h : u ≠ w) : ((⟨u.toArray⟩ : Str) == ⟨w.toArray⟩) = false := by
  rw [beq_eq_false_iff_ne]; intro q; injection q with q; exact h (by simpa using q)

noncomputable def opv (u : List Nat) : Int := if u = [40] then 1 else if u = [41] then -1 else 0
noncomputable def opns : List (List Nat) → Int
  | [] => 0
  | u :: us => opv u + opns us
noncomputable def nn : Int → List (List Nat) → Prop
  | _, [] => True
  | o, u :: us => 0 ≤ o + opv u ∧ nn (o + opv u) us
noncomputable def cpD : DefRec := theD "_check_parenthesis"
noncomputable def cpFor : Stmt := stAt cpD.body 2
noncomputable def frC (d : D) (o : Int) (p c : D) : Fr2 := [("addr", d), ("opens", .int o), ("pos", p), ("ch", c)]
noncomputable def cpT (i : Nat) : Expr := match i with
  | 0 => (sx (stAt (forBody cpFor) 0) 0)
  | 1 => (sx (stAt (sE (stAt (forBody cpFor) 0)) 0) 0)
  | _ => (sx (stAt (sB (stAt (sE (stAt (forBody cpFor) 0)) 0)) 1) 0)

theorem cp_step (d p : D) (o : Int) (u : List Nat) (h : 0 ≤ o + opv u) : exsL K 56 cpD.scope (frC d o p (S u)) (forBody cpFor) = some (.next, frC d (o + opv u) p (S u)) := by
  by_cases h1 : u = [40]
  · subst h1
    exact sc_next rfl (x_ift rfl rfl (sc_next (l' := frC d (o + 1) p (S [40])) rfl (x_aug (o + 1) rfl rfl rfl rfl (.inl ⟨rfl, rfl⟩)) (sc_nil rfl))) (sc_nil rfl)
  · have t0 : tr K 54 cpD.scope (Sg (frC d o p (S u))) (cpT 0) = some ((⟨u.toArray⟩ : Str) == ⟨[40].toArray⟩) := rfl
    rw [strEqL h1] at t0
    have t1 : tr K 52 cpD.scope (Sg (frC d o p (S u))) (cpT 1) = some ((⟨u.toArray⟩ : Str) == ⟨[41].toArray⟩) := rfl
    by_cases h2 : u = [41]
    · subst h2
      have e : o + opv [41] = o - 1 := by simp [opv]; omega
      rw [e] at h ⊢
      refine sc_next (l' := frC d (o - 1) p (S [41])) rfl (x_iff rfl t0 (sc_next (l' := frC d (o - 1) p (S [41])) rfl (x_ift rfl rfl (sc_next (l' := frC d (o - 1) p (S [41])) rfl (x_aug (o - 1) rfl rfl rfl rfl (.inr ⟨rfl, rfl⟩)) (sc_next (l' := frC d (o - 1) p (S [41])) rfl (x_iff rfl ?_ (sc_nil rfl)) (sc_nil rfl)))) (sc_nil rfl))) (sc_nil rfl)
      have t2 : ∀ b, decide (o - 1 < 0) = b → tr K 49 cpD.scope (Sg (frC d (o - 1) p (S [41]))) (cpT 2) = some b := by rintro b rfl; rfl
      exact t2 _ (by simpa using h)
    · rw [strEqL h2] at t1
      have e : o + opv u = o := by simp [opv, h1, h2]
      rw [e]
      exact sc_next rfl (x_iff rfl t0 (sc_next rfl (x_iff rfl t1 (sc_nil rfl)) (sc_nil rfl))) (sc_nil rfl)
noncomputable def shC (d : D) (o : Int) (l : Fr2) : Prop := l = ([("addr", d), ("opens", .int o)] : Fr2) ∨ ∃ p c, l = frC d o p c
theorem cp_bind {o : Int} (h : shC d o l) (a : Int × Str) : bindTL cpD.scope (forT cpFor) (encP a) l = some (frC d o (.int a.1) (.str a.2)) := by
  rcases h with rfl | ⟨p, c, rfl⟩ <;> rfl
theorem cp_loop (d : D) : ∀ (us : List (List Nat)) (i o : Int) (l : Fr2), nn o us → shC d o l → ∃ l', shC d (o + opns us) l' ∧ loopDL cpD.scope (fun l => exsL K 56 cpD.scope l (forBody cpFor)) (forT cpFor) ((pairs i us).map encP) l = some (.next, l')
  | [], i, o, l, _, hl => ⟨l, by simpa [opns] using hl, rfl⟩
  | u :: us, i, o, l, hn, hl => by
    obtain ⟨l', h1, h2⟩ := cp_loop d us (i + u.length) (o + opv u) (frC d (o + opv u) (.int (i + u.length - 1)) (S u)) hn.2 (.inr ⟨_, _, rfl⟩)
    refine ⟨l', by simpa [opns, Int.add_assoc] using h1, ?_⟩
    simp only [pairs, List.map_cons]
    exact lp_next (cp_bind hl _) (cp_step d _ o u hn.1) h2
theorem check_run (m : Nat) (us : List (List Nat)) (hu : ∀ u ∈ us, WFu u) (hq : (34 : Nat) ∉ us.flatten) (hn : nn 0 us) : (KK (m + 2)).Φ "_check_parenthesis" [S us.flatten] = some (.bool (opns us == 0)) := by
  obtain ⟨l', h1, h2⟩ := cp_loop (K := KK (m + 1)) (S us.flatten) us 0 0 ([("addr", S us.flatten), ("opens", .int 0)] : Fr2) hn (.inl rfl)
  rw [Int.zero_add] at h1
  refine Phi_of (dr := cpD) rfl rfl (run_ret (l := ([("addr", S us.flatten)] : Fr2)) (l' := l') rfl (sc_next (l' := [("addr", S us.flatten)]) rfl (x_asg (d := S us.flatten) rfl rfl ?_ rfl) (sc_next (l' := [("addr", S us.flatten), ("opens", .int 0)]) rfl (x_asg rfl rfl rfl rfl)
    (sc_next (l' := l') rfl (x_for rfl ?_ h2) (sc_ret (l' := l') rfl (x_ret rfl ?_))))))
  · exact strip_run m _ hq
  · exact iter_gamma m us hu
  · rcases h1 with rfl | ⟨p, c, rfl⟩ <;> rfl
end Mine
end

section
open PySem PySem.W PyProof.Rows
set_option maxRecDepth 100000
set_option maxHeartbeats 4000000
namespace Mine
variable {K : Know} {n : Nat} {sc : Scope} {σ : Sig} {l l' : Fr2} {st : Stmt} {b rest : List Stmt} {r : Option (Fl × Fr2)} {d : D}

set_option tactic.hygienic false
theorem strs_S : ∀ us : List (List Nat), strsD (us.map S) = some (us.map fun u => (⟨u.toArray⟩ : Str))
  | [] => rfl
  | u :: us => by simp only [List.map_cons, S, strsD]; rw [strs_S us]; rfl
theorem join_flat : ∀ us : List (List Nat), Str.join Str.empty (us.map fun u => (⟨u.toArray⟩ : Str)) = ⟨us.flatten.toArray⟩
  | [] => rfl
  | [u] => by simp [Str.join]
  | u :: v :: us => by
    have ih := join_flat (v :: us)
    simp only [List.map_cons, Str.join] at ih ⊢
    rw [ih]
    show Str.append (Str.append _ _) _ = _
    simp [Str.append, Str.empty]
theorem sum_flat : ∀ us : List (List Nat), ((us.map fun u => (⟨u.toArray⟩ : Str)).map (·.length)).sum = us.flatten.length
  | [] => rfl
  | u :: us => by simp only [List.map_cons, List.sum_cons, sum_flat us, List.flatten_cons, List.length_append, str_len]
theorem join_D (us : List (List Nat)) (h : us.flatten.length ≤ 1000) : methD (.str "") "join" [.list (us.map S)] = some (S us.flatten) := by
  show ((strsD (us.map S)).bind fun l => if JoinOk Str.empty l then strD (Txt.join Str.empty l) else none) = _
  rw [strs_S, Option.bind_some]
  have e1 : Txt.join Str.empty (us.map fun u => (⟨u.toArray⟩ : Str)) = ⟨us.flatten.toArray⟩ := by
    unfold Txt.join; rw [StrLaws.glued_eq_join, join_flat]
  have e2 : JoinOk Str.empty (us.map fun u => (⟨u.toArray⟩ : Str)) = true := by
    unfold JoinOk
    rw [StrLaws.joinTotal, sum_flat]
    have : (Str.empty).length = 0 := rfl
    rw [this, Nat.mul_zero, Nat.add_zero]
    have hs : Builtin.Str.tooLong us.flatten.length = false := by
      unfold Builtin.Str.tooLong
      rw [decide_eq_false_iff_not, sizeLine_eq]; omega
    rw [hs]; rfl
  rw [if_pos e2, e1]
  exact strD_S (by unfold big; omega)
theorem clip_nat (n a : Nat) : clipAt n (a : Int) = min a n := by
  unfold clipAt
  rw [if_neg (Int.not_lt.mpr (Int.natCast_nonneg a))]
  rcases Nat.le_total a n with h | h
  · rw [Int.min_eq_left (Int.ofNat_le.mpr h), Int.max_eq_right (Int.natCast_nonneg _), Nat.min_eq_left h]; rfl
  · rw [Int.min_eq_right (Int.ofNat_le.mpr h), Int.max_eq_right (Int.natCast_nonneg _), Nat.min_eq_right h]; rfl
theorem sl_to (xs : List D) (a : Nat) : sliceD (.list xs) none (some (a : Int)) = some (.list (xs.take a)) := by
  simp only [sliceD, loN, hiN, Option.elim_none, Option.elim_some, clip_nat, List.drop_zero, Nat.sub_zero]
  rw [← List.take_take, List.take_length]
theorem sl_from (xs : List D) (a : Nat) : sliceD (.list xs) (some (a : Int)) none = some (.list (xs.drop a)) := by
  simp only [sliceD, loN, hiN, Option.elim_none, Option.elim_some, clip_nat]
  congr 2
  by_cases h : a ≤ xs.length
  · rw [Nat.min_eq_left h, List.take_of_length_le (by simp)]
  · rw [Nat.min_eq_right (by omega), List.drop_of_length_le (Nat.le_refl _), List.drop_of_length_le (by omega)]; simp
theorem sl_mid (xs : List D) (a b : Nat) (h : a ≤ xs.length) : sliceD (.list xs) (some (a : Int)) (some (b : Int)) = some (.list ((xs.drop a).take (b - a))) := by
  simp only [sliceD, loN, hiN, Option.elim_some, clip_nat]
  rw [Nat.min_eq_left h]
  congr 2
  by_cases h2 : b ≤ xs.length
  · rw [Nat.min_eq_left h2]
  · rw [Nat.min_eq_right (by omega), List.take_of_length_le (by simp), List.take_of_length_le (by simp; omega)]
theorem take_flat : ∀ (us : List (List Nat)) (i : Nat), ∃ r, us.flatten = (us.take i).flatten ++ r
  | us, 0 => ⟨us.flatten, by simp⟩
  | [], i + 1 => ⟨[], by simp⟩
  | u :: us, i + 1 => by
    obtain ⟨r, h⟩ := take_flat us i
    exact ⟨r, by rw [List.flatten_cons, h, List.take_succ_cons, List.flatten_cons, List.append_assoc]⟩
theorem small_nat (a : Nat) (h : a ≤ 1000) : smallI (a : Int) = true := by unfold smallI; simp; omega

theorem lp_app {sc : Scope} {body : Fr2 → Option (Fl × Fr2)} {t : Expr} : ∀ (ds es : List D) (l l' : Fr2), loopDL sc body t ds l = some (.next, l') → loopDL sc body t (ds ++ es) l = loopDL sc body t es l'
  | [], es, l, l', h => by simp only [loopDL] at h; cases h; rfl
  | d :: ds, es, l, l', h => by
    simp only [loopDL] at h
    rw [Option.bind_eq_some_iff] at h
    obtain ⟨l1, h1, h⟩ := h
    rw [Option.bind_eq_some_iff] at h
    obtain ⟨⟨f, l2⟩, h2, h⟩ := h
    cases f with
    | next => exact lp_next h1 h2 (lp_app ds es l2 l' h)
    | ret d => cases h
theorem lp_inv {sc : Scope} {body : Fr2 → Option (Fl × Fr2)} {t : Expr} (I : Fr2 → Prop) : ∀ (ds : List D) (l : Fr2), (∀ d ∈ ds, ∀ l, I l → ∃ l1 l2, bindTL sc t d l = some l1 ∧ body l1 = some (.next, l2) ∧ I l2) → I l → ∃ l', loopDL sc body t ds l = some (.next, l') ∧ I l'
  | [], l, _, hl => ⟨l, rfl, hl⟩
  | d :: ds, l, h, hl => by
    obtain ⟨l1, l2, h1, h2, h3⟩ := h d (by simp) l hl
    obtain ⟨l', h4, h5⟩ := lp_inv I ds l2 (fun d hd => h d (List.mem_cons_of_mem _ hd)) h3
    exact ⟨l', lp_next h1 h2 h4, h5⟩
theorem tr_and2 {e a b : Expr} {p : Pos} {x y : Bool} (he : e = .BoolOp .And [a, b] p) (h1 : tr K n sc σ a = some x) (h2 : x = true → tr K n sc σ b = some y) : tr K (n + 1) sc σ e = some (x && y) := by
  subst he
  show allT (tr K n sc σ) .And [a, b] = _
  cases x with
  | false => simp [allT, h1]
  | true =>
    have h2 := h2 rfl
    cases y <;> simp [allT, h1, h2]


theorem ev_call {e : Expr} {f : Str} {pf p : Pos} {args : List Expr} {d : D} (ds : List D) (he : e = .Call (.Name f pf) args [] p) (hf : (f == "__debug__" || (σ f).isSome || !(isGlob sc f)) = false) (hl : (f == "list") = false) (hb : bltNames.contains f = false) (hs : seqM (ev K n sc σ) args = some ds) (hΦ : K.Φ f ds = some d) : ev K (n + 1) sc σ e = some d := by
  subst he
  obtain ⟨x, hx⟩ : ∃ x, ev K (n + 1) sc σ (.Call (.Name f pf) args [] p) = if (f == "__debug__" || (σ f).isSome || !(isGlob sc f)) = true then none else if (f == "list") = true then x else (seqM (ev K n sc σ) args).bind fun ds => if bltNames.contains f = true then bltD f ds else K.Φ f ds := ⟨_, rfl⟩
  rw [hx, hf, hl]
  simp only [Bool.false_eq_true, if_false]
  rw [hs, Option.bind_some, hb]
  exact hΦ
theorem ev_blt {e : Expr} {f : Str} {pf p : Pos} {args : List Expr} {d : D} (ds : List D) (he : e = .Call (.Name f pf) args [] p) (hf : (f == "__debug__" || (σ f).isSome || !(isGlob sc f)) = false) (hl : (f == "list") = false) (hb : bltNames.contains f = true) (hs : seqM (ev K n sc σ) args = some ds) (hΦ : bltD f ds = some d) : ev K (n + 1) sc σ e = some d := by
  subst he
  obtain ⟨x, hx⟩ : ∃ x, ev K (n + 1) sc σ (.Call (.Name f pf) args [] p) = if (f == "__debug__" || (σ f).isSome || !(isGlob sc f)) = true then none else if (f == "list") = true then x else (seqM (ev K n sc σ) args).bind fun ds => if bltNames.contains f = true then bltD f ds else K.Φ f ds := ⟨_, rfl⟩
  rw [hx, hf, hl]
  simp only [Bool.false_eq_true, if_false]
  rw [hs, Option.bind_some, hb]
  exact hΦ
theorem seq1 {f : Expr → Option D} {a : Expr} {d : D} (h : f a = some d) : seqM f [a] = some [d] := by simp [seqM, h]
theorem seq2 {f : Expr → Option D} {a b : Expr} {d e : D} (h : f a = some d) (h2 : f b = some e) : seqM f [a, b] = some [d, e] := by simp [seqM, h, h2]
theorem seq3 {f : Expr → Option D} {a b c : Expr} {d e g : D} (h : f a = some d) (h2 : f b = some e) (h3 : f c = some g) : seqM f [a, b, c] = some [d, e, g] := by simp [seqM, h, h2, h3]
theorem ev_meth {e o a : Expr} {name : Str} {apos p : Pos} {x y d : D} (he : e = .Call (.Attribute o name apos) [a] [] p) (hs : (simpleE o && apos.endLine == p.line) = true) (ho : ev K n sc σ o = some x) (ha : ev K n sc σ a = some y) (hm : methD x name [y] = some d) : ev K (n + 1) sc σ e = some d := by
  subst he
  rcases att_form (K := K) (n := n) (sc := sc) (σ := σ) (name := name) (apos := apos) (p := p) o [a] [] with ⟨_, _, _, _, _, _, _, _, q, _⟩ | e
  · cases q
  rw [e, attF, if_pos hs, ho, Option.bind_some, ha]
  exact hm
theorem ev_slice {e : Expr} {x : Str} {px ps p : Pos} {lo hi : Option Expr} {a d : D} {u v : Option Int} (he : e = .Subscript (.Name x px) (.Slice lo hi none ps) p) (h0 : ev K n sc σ (.Name x px) = some a) (h1 : bndD' (ev K n sc σ) lo = some u) (h2 : bndD' (ev K n sc σ) hi = some v) (h : sliceD a u v = some d) : ev K (n + 1) sc σ e = some d := by
  subst he
  show ((ev K n sc σ (.Name x px)).bind fun a => (bndD' (ev K n sc σ) lo).bind fun l => (bndD' (ev K n sc σ) hi).bind fun h => sliceD a l h) = _
  rw [h0, Option.bind_some, h1, Option.bind_some, h2]; exact h
theorem bnd_nat {f : Expr → Option D} {e : Expr} (a : Nat) (ha : a ≤ 1000) (h : f e = some (.int a)) : bndD' f (some e) = some (some (a : Int)) := by
  have e1 : bndD' f (some e) = (f e).bind fun d => bndD (some d) := rfl
  rw [e1, h, Option.bind_some]
  have e2 : ∀ k : Int, bndD (some (.int k)) = if smallI k = true then some (some k) else none := fun k => rfl
  rw [e2, if_pos (small_nat a ha)]
theorem ev_bin {e l r : Expr} {op : Operator} {p : Pos} {x y d : D} (he : e = .BinOp l op r p) (hl : glF K sc σ l = none) (hr : glF K sc σ r = none) (h1 : ev K n sc σ l = some x) (h2 : ev K n sc σ r = some y) (h : binD op x y = some d) : ev K (n + 1) sc σ e = some d := by
  subst he
  have : ev K (n + 1) sc σ (.BinOp l op r p) = (match glF K sc σ l, glF K sc σ r with
      | some a, none => (ev K n sc σ r).bind fun b => match b with | .flt y => glD op a y | _ => none
      | none, some b => (ev K n sc σ l).bind fun a => match a with | .flt x => glD op x b | _ => none
      | none, none => (ev K n sc σ l).bind fun a => (ev K n sc σ r).bind fun b => binD op a b
      | some _, some _ => none) := rfl
  rw [this, hl, hr]
  dsimp only
  rw [h1, Option.bind_some, h2]; exact h
theorem ev_sub {e v i : Expr} {p : Pos} {x y d : D} (he : e = .Subscript v i p) (hi : (i.ctorIdx == 26) = false) (h1 : ev K n sc σ v = some x) (h2 : ev K n sc σ i = some y) (h : idxD x y = some d) : ev K (n + 1) sc σ e = some d := by
  subst he
  rcases ev_sub_form K n sc σ v i p with ⟨_, _, _, _, _, _, rfl⟩ | e
  · cases hi
  · rw [e, h1, Option.bind_some, h2]; exact h
theorem ev_if {e t a b : Expr} {p : Pos} {c : Bool} {d : D} (he : e = .IfExp t a b p) (h1 : tr K n sc σ t = some c) (h2 : (if c then ev K n sc σ a else ev K n sc σ b) = some d) : ev K (n + 1) sc σ e = some d := by
  subst he; show ((tr K n sc σ t).bind fun c => if c then ev K n sc σ a else ev K n sc σ b) = _; rw [h1]; exact h2
theorem tr_call {e f : Expr} {args : List Expr} {kw : List Keyword} {p : Pos} {b : Bool} (he : e = .Call f args kw p) (h : ev K n sc σ e = some (.bool b)) : tr K (n + 1) sc σ e = some b := by
  subst he; show ((ev K n sc σ (.Call f args kw p)).bind fun d => match d with | .bool b => some b | _ => none) = _; rw [h]; rfl
theorem ev_list {e : Expr} {es : List Expr} {p : Pos} {ds : List D} (he : e = .List es p) (hs : seqM (ev K n sc σ) es = some ds) (hl : ds.length ≤ 1000) : ev K (n + 1) sc σ e = some (.list ds) := by
  subst he; show (seqM (ev K n sc σ) es).bind listD = _; rw [hs, Option.bind_some, listD, if_pos (by unfold big; omega)]
theorem ev_tup {e : Expr} {es : List Expr} {p : Pos} {k : Nat} {ds : List D} (he : e = .Tuple es k p) (hs : seqM (ev K n sc σ) es = some ds) (hl : ds.length ≤ 1000) : ev K (n + 1) sc σ e = some (.tup ds) := by
  subst he; show (seqM (ev K n sc σ) es).bind tupD = _; rw [hs, Option.bind_some, tupD, if_pos (by unfold big; omega)]
theorem tr_cmp {e l r : Expr} {op : CmpOp} {p : Pos} {x y : D} {b : Bool} (he : e = .Compare l [op] [r] p) (hop : op ≠ .Lt) (h1 : ev K n sc σ l = some x) (h2 : ev K n sc σ r = some y) (h : cmpD op x y = some b) : tr K (n + 1) sc σ e = some b := by
  subst he
  have : tr K (n + 1) sc σ (.Compare l [op] [r] p) = (ev K n sc σ l).bind fun a => chainT (ev K n sc σ) a [op] [r] := by cases op <;> first | rfl | exact absurd rfl hop
  rw [this, h1, Option.bind_some, chainT_1, h2]; exact h

theorem it_range1 {f : Expr → Option D} {e a : Expr} {pf p : Pos} {b : Int} (he : e = .Call (.Name "range" pf) [a] [] p) (hg : isGlob sc "range" = true) (h : f a = some (.int b)) (hb : smallI b = true) : itE K f sc e = some (rngD 0 b) := by
  subst he
  have : itE K f sc (.Call (.Name "range" pf) [a] [] p) = (if isGlob sc "range" = true then (seqM f [a]).bind fun ds => match ds with
      | [.int b] => if smallI b then some (rngD 0 b) else none
      | [.int a, .int b] => if smallI a && smallI b then some (rngD a b) else none
      | _ => none else none) := rfl
  rw [this, if_pos hg, seq1 h, Option.bind_some]
  dsimp only
  rw [if_pos hb]
theorem it_range2 {f : Expr → Option D} {e a a' : Expr} {pf p : Pos} {b b' : Int} (he : e = .Call (.Name "range" pf) [a, a'] [] p) (hg : isGlob sc "range" = true) (h : f a = some (.int b)) (h' : f a' = some (.int b')) (hb : smallI b = true) (hb' : smallI b' = true) : itE K f sc e = some (rngD b b') := by
  subst he
  have : itE K f sc (.Call (.Name "range" pf) [a, a'] [] p) = (if isGlob sc "range" = true then (seqM f [a, a']).bind fun ds => match ds with
      | [.int b] => if smallI b then some (rngD 0 b) else none
      | [.int a, .int b] => if smallI a && smallI b then some (rngD a b) else none
      | _ => none else none) := rfl
  rw [this, if_pos hg, seq2 h h', Option.bind_some]
  dsimp only
  rw [if_pos (by rw [hb, hb']; rfl)]
noncomputable def cutD : DefRec := theD "_law_cut"
noncomputable def cutFor : Stmt := stAt cutD.body 0
noncomputable def cutIf : Expr := sx (stAt (forBody cutFor) 0) 0
noncomputable def cutA : Expr := kid cutIf 0
noncomputable def cutB : Expr := kid cutIf 1
noncomputable def frU (U : D) (j : Int) : Fr2 := [("units", U), ("j", .int j)]
theorem cut_a (us : List (List Nat)) (i : Nat) (u : List Nat) (h : us[i + 1]? = some u) : tr K 55 cutD.scope (Sg (frU (.list (us.map S)) (2 + (i : Int)))) cutA = some ((⟨u.toArray⟩ : Str) == ⟨[41].toArray⟩) := by
  have hk : idxD (.list (us.map S)) (.int (2 + (i : Int) - 1)) = some (S u) := by
    show (if 0 ≤ 2 + (i : Int) - 1 then (us.map S)[(2 + (i : Int) - 1).toNat]? else none) = _
    rw [if_pos (by omega), show (2 + (i : Int) - 1).toNat = i + 1 by omega, List.getElem?_map, h]; rfl
  have e : tr K 55 cutD.scope (Sg (frU (.list (us.map S)) (2 + (i : Int)))) cutA = ((idxD (.list (us.map S)) (.int (2 + (i : Int) - 1))).bind fun a => chainT (ev K 54 cutD.scope (Sg (frU (.list (us.map S)) (2 + (i : Int))))) a [.Eq] [.Constant (.str ")") 0 ⟨0, 0, 0, 0⟩]) := rfl
  rw [e, hk]; rfl
theorem cut_b (m : Nat) (us : List (List Nat)) (i : Nat) (hi : i + 2 ≤ 1000) (hu : ∀ u ∈ us, WFu u) (hq : (34 : Nat) ∉ us.flatten) (hl : us.flatten.length ≤ 1000) (hn : nn 0 (us.take (i + 2))) :
    tr (KK (m + 2)) 55 cutD.scope (Sg (frU (.list (us.map S)) (2 + (i : Int)))) cutB = some (opns (us.take (i + 2)) == 0) := by
  refine tr_call rfl (ev_call [S (us.take (i + 2)).flatten] rfl rfl rfl rfl (seq1 (ev_meth rfl rfl rfl (ev_slice rfl rfl rfl (bnd_nat (i + 2) hi ?_) (sl_to _ _)) ?_)) ?_)
  · show some (D.int (2 + (i : Int))) = _
    congr 2; omega
  · rw [← List.map_take]
    refine join_D _ (Nat.le_trans ?_ hl)
    obtain ⟨r, e⟩ := take_flat us (i + 2)
    rw [e, List.length_append]; omega
  · refine check_run m _ (fun u h => hu u (List.mem_of_mem_take h)) (fun h => hq ?_) hn
    obtain ⟨r, e⟩ := take_flat us (i + 2)
    rw [e]; exact List.mem_append_left _ h
noncomputable def shU (U : D) (l : Fr2) : Prop := l = ([("units", U)] : Fr2) ∨ ∃ j, l = frU U j
theorem cut_bind {U : D} (h : shU U l) (j : Int) : bindTL cutD.scope (forT cutFor) (.int j) l = some (frU U j) := by
  rcases h with rfl | ⟨p, rfl⟩ <;> rfl
end Mine
end

section
open PySem PySem.W PyProof.Rows
set_option maxRecDepth 100000
set_option maxHeartbeats 4000000
namespace Mine
variable {K : Know} {n : Nat} {sc : Scope} {σ : Sig} {l l' : Fr2} {st : Stmt} {b rest : List Stmt} {r : Option (Fl × Fr2)} {d : D}

set_option tactic.hygienic false
theorem opns_app : ∀ (a b : List (List Nat)), opns (a ++ b) = opns a + opns b
  | [], b => by simp [opns]
  | u :: a, b => by simp [opns, opns_app a b, Int.add_assoc]
theorem nn_app : ∀ (a b : List (List Nat)) (o : Int), nn o (a ++ b) ↔ nn o a ∧ nn (o + opns a) b
  | [], b, o => by simp [nn, opns]
  | u :: a, b, o => by simp [nn, opns, nn_app a b, and_assoc, Int.add_assoc]
theorem nn_mono : ∀ (a : List (List Nat)) (o p : Int), o ≤ p → nn o a → nn p a
  | [], _, _, _, _ => trivial
  | u :: a, o, p, h, ⟨h1, h2⟩ => ⟨by omega, nn_mono a _ _ (by omega) h2⟩
theorem nn_take (a : List (List Nat)) (o : Int) (i : Nat) (h : nn o a) : nn o (a.take i) := by
  rw [← List.take_append_drop i a, nn_app] at h; exact h.1
theorem nn_end : ∀ (a : List (List Nat)) (o : Int), 0 ≤ o → nn o a → 0 ≤ o + opns a
  | [], o, h, _ => by simp [opns]; exact h
  | u :: a, o, h, ⟨h1, h2⟩ => by have := nn_end a _ h1 h2; simp only [opns]; omega

theorem cut_body (m : Nat) (us : List (List Nat)) (i : Nat) (hi : i + 2 ≤ 1000) (hu : ∀ u ∈ us, WFu u) (hq : (34 : Nat) ∉ us.flatten) (hl : us.flatten.length ≤ 1000) (hn : nn 0 (us.take (i + 2))) (u : List Nat) (h : us[i + 1]? = some u) :
    tr (KK (m + 2)) 56 cutD.scope (Sg (frU (.list (us.map S)) (2 + (i : Int)))) cutIf = some (((⟨u.toArray⟩ : Str) == ⟨[41].toArray⟩) && (opns (us.take (i + 2)) == 0)) :=
  tr_and2 rfl (cut_a us i u h) fun zz => cut_b m us i hi hu hq hl hn

theorem cut_run (m : Nat) (bd rest : List (List Nat)) (hu : ∀ u ∈ [40] :: (bd ++ [41] :: rest), WFu u) (hq : (34 : Nat) ∉ ([40] :: (bd ++ [41] :: rest)).flatten) (hl : ([40] :: (bd ++ [41] :: rest)).flatten.length ≤ 1000) (hlen : ([40] :: (bd ++ [41] :: rest)).length ≤ 1000)
    (hr : rest ≠ []) (hn : nn 0 bd) (ho : opns bd = 0) : (KK (m + 3)).Φ "_law_cut" [.list (([40] :: (bd ++ [41] :: rest)).map S)] = some (.int (bd.length + 2)) := by
  generalize hus : [40] :: (bd ++ [41] :: rest) = us at *
  have hL : us.length = bd.length + rest.length + 2 := by rw [← hus]; simp; omega
  have hr1 : 1 ≤ rest.length := by cases rest with | nil => exact absurd rfl hr | cons _ _ => simp
  -- the places before
  have step : ∀ i, i < bd.length → ∀ l, shU (.list (us.map S)) l → ∃ l1 l2, bindTL cutD.scope (forT cutFor) (.int (2 + (i : Int))) l = some l1 ∧ exsL (KK (m + 2)) 58 cutD.scope l1 (forBody cutFor) = some (.next, l2) ∧ shU (.list (us.map S)) l2 := by
    intro i hi l hs
    refine ⟨_, frU (.list (us.map S)) (2 + (i : Int)), cut_bind hs _, ?_, .inr ⟨_, rfl⟩⟩
    have htk : us.take (i + 2) = [40] :: bd.take (i + 1) := by
      rw [← hus, List.take_succ_cons, List.take_append_of_le_length (by omega)]
    have hnn : nn 0 (us.take (i + 2)) := by
      rw [htk]; exact ⟨by simp [opv], nn_mono _ 0 _ (by simp [opv]) (nn_take _ _ _ hn)⟩
    have hop : (opns (us.take (i + 2)) == 0) = false := by
      have := nn_end (bd.take (i + 1)) 0 (Int.le_refl _) (nn_take _ _ _ hn)
      rw [htk, beq_eq_false_iff_ne]
      simp only [opns, opv, if_true]; omega
    obtain ⟨u, hget⟩ : ∃ u, us[i + 1]? = some u := ⟨us[i + 1]'(by omega), List.getElem?_eq_getElem (by omega)⟩
    have ht := cut_body m us i (by omega) hu hq hl hnn u hget
    rw [hop, Bool.and_false] at ht
    exact sc_next rfl (x_iff rfl ht (sc_nil rfl)) (sc_nil rfl)
  obtain ⟨l1, h1, h2⟩ := lp_inv (sc := cutD.scope) (body := fun l => exsL (KK (m + 2)) 58 cutD.scope l (forBody cutFor)) (t := forT cutFor) (shU (.list (us.map S))) ((List.range bd.length).map fun (i : Nat) => D.int (2 + (i : Int))) [("units", .list (us.map S))] (fun d hd l hs => by
    obtain ⟨i, hi, rfl⟩ := List.mem_map.mp hd
    exact step i (List.mem_range.mp hi) l hs) (.inl rfl)
  have htk : us.take (bd.length + 2) = [40] :: (bd ++ [[41]]) := by
    rw [← hus, List.take_succ_cons, List.take_append, List.take_of_length_le (by omega)]
    simp
  have hnn : nn 0 (us.take (bd.length + 2)) := by
    rw [htk]
    refine ⟨by simp [opv], ?_⟩
    rw [nn_app]
    refine ⟨nn_mono _ 0 _ (by simp [opv]) hn, ?_⟩
    rw [ho]
    simp [nn, opv]
  have hop : (opns (us.take (bd.length + 2)) == 0) = true := by
    rw [htk, beq_iff_eq]
    simp [opns, opns_app, ho, opv]
  have hget : us[bd.length + 1]? = some [41] := by rw [← hus]; simp
  have ht := cut_body m us bd.length (by omega) hu hq hl hnn [41] hget
  rw [hop] at ht
  have ht : tr (KK (m + 2)) 56 cutD.scope (Sg (frU (.list (us.map S)) (2 + (bd.length : Int)))) cutIf = some true := ht
  have hr2 : rngD 2 us.length = ((List.range bd.length).map fun (i : Nat) => D.int (2 + (i : Int))) ++ D.int (2 + (bd.length : Int)) :: ((List.range (rest.length - 1)).map fun (i : Nat) => D.int (2 + ((bd.length + 1 + i : Nat) : Int))) := by
    unfold rngD
    have e : ((us.length : Int) - 2).toNat = bd.length + (1 + (rest.length - 1)) := by omega
    rw [e, List.range_add, List.map_append, List.range_add]
    simp
    intro a _; omega
  have hit : itE (KK (m + 2)) (ev (KK (m + 2)) 58 cutD.scope (Sg ([("units", .list (us.map S))] : Fr2))) cutD.scope (sx cutFor 0) = some (rngD 2 us.length) := by
    have e := it_range2 (K := KK (m + 2)) (sc := cutD.scope) (f := ev (KK (m + 2)) 58 cutD.scope (Sg ([("units", .list (us.map S))] : Fr2))) (e := sx cutFor 0) (b := 2) (b' := ((us.map S).length : Int)) rfl rfl rfl (ev_blt [.list (us.map S)] rfl rfl rfl rfl (seq1 rfl) rfl) (small_nat 2 (by omega)) (small_nat _ (by rw [List.length_map]; exact hlen))
    rw [List.length_map] at e
    exact e
  have hloop : loopDL cutD.scope (fun l => exsL (KK (m + 2)) 58 cutD.scope l (forBody cutFor)) (forT cutFor) (rngD 2 us.length) ([("units", .list (us.map S))] : Fr2) = some (.ret (.int (2 + (bd.length : Int))), frU (.list (us.map S)) (2 + (bd.length : Int))) := by
    rw [hr2]
    refine (lp_app _ _ _ _ h1).trans ?_
    exact lp_ret (cut_bind h2 _) (sc_ret rfl (x_ift rfl ht (sc_ret rfl (x_ret rfl rfl))))
  have : D.int (bd.length + 2) = D.int (2 + (bd.length : Int)) := by rw [Int.add_comm]
  rw [this]
  have hx := x_forret (K := KK (m + 2)) (n := 58) (sc := cutD.scope) (l := ([("units", .list (us.map S))] : Fr2)) (st := cutFor) rfl rfl hit hloop
  exact Phi_of (dr := cutD) rfl rfl (run_ret (l := ([("units", .list (us.map S))] : Fr2)) rfl (sc_ret rfl hx))
end Mine
end

section
open PySem PySem.W PyProof.Rows
set_option maxRecDepth 100000
set_option exponentiation.threshold 5000
set_option maxHeartbeats 4000000
namespace Mine
set_option tactic.hygienic false
theorem light_tab (m : Nat) : ∀ k, k < 3 → (KK (m + 1)).Φ "_law_light" [.int (k : Nat)] = some (colD k) := by
  intro k hk
  match k, hk with
  | 0, _ => with_unfolding_all rfl
  | 1, _ => with_unfolding_all rfl
  | 2, _ => with_unfolding_all rfl
noncomputable def code (k : Nat) : Nat := if k = 0 then 114 else if k = 1 then 103 else if k = 2 then 98 else 46
theorem letter_tab (m : Nat) : ∀ k, k < 3 → (KK (m + 2)).Φ "_law_letter" [colD k] = some (S [code k]) := by
  intro k hk
  match k, hk with
  | 0, _ => with_unfolding_all rfl
  | 1, _ => with_unfolding_all rfl
  | 2, _ => with_unfolding_all rfl
theorem turn_tab (m : Nat) : ∀ k, k < 3 → ∀ f, f = 1 ∨ f = 2 ∨ f = 4 → (KK (m + 2)).Φ "_law_turn" [colD k, .int (f : Nat)] = some (colD ((k + f) % 3)) := by
  intro k hk f hf
  match k, hk with
  | 0, _ => rcases hf with rfl | rfl | rfl <;> with_unfolding_all rfl
  | 1, _ => rcases hf with rfl | rfl | rfl <;> with_unfolding_all rfl
  | 2, _ => rcases hf with rfl | rfl | rfl <;> with_unfolding_all rfl
end Mine
end

section
open PySem PySem.W PyProof.Rows
set_option maxRecDepth 100000
set_option exponentiation.threshold 5000
set_option maxHeartbeats 4000000
namespace Mine
noncomputable def foldD : DefRec := theD "_law_fold"
noncomputable def fr4 (U : D) (c : Int) (a : Nat) (F : D) (b : Nat) (G : D) : Fr2 := [("units", U), ("cut", .int c), ("one", colD a), ("first", F), ("two", colD b), ("second", G)]
noncomputable def fr7 (U : D) (c : Int) (a : Nat) (F : D) (b : Nat) (G : D) (h l s : UInt64) : Fr2 := [("units", U), ("cut", .int c), ("one", colD a), ("first", F), ("two", colD b), ("second", G), ("hue", .flt h), ("light", .flt l), ("share", .flt s)]
noncomputable def fr8 (U : D) (c : Int) (a : Nat) (F : D) (b : Nat) (G : D) (h l s : UInt64) (t : D) : Fr2 := [("units", U), ("cut", .int c), ("one", colD a), ("first", F), ("two", colD b), ("second", G), ("hue", .flt h), ("light", .flt l), ("share", .flt s), ("third", t)]
noncomputable def fr9 (U : D) (c : Int) (a : Nat) (F : D) (b : Nat) (G : D) (h l s : UInt64) (t p : D) : Fr2 := [("units", U), ("cut", .int c), ("one", colD a), ("first", F), ("two", colD b), ("second", G), ("hue", .flt h), ("light", .flt l), ("share", .flt s), ("third", t), ("pale", p)]
noncomputable def fr12 (U : D) (c : Int) (a : Nat) (F : D) (b : Nat) (G : D) (h l s : UInt64) (t p : D) (h' l' s' : UInt64) : Fr2 := [("units", U), ("cut", .int c), ("one", colD a), ("first", F), ("two", colD b), ("second", G), ("hue", .flt h), ("light", .flt l), ("share", .flt s), ("third", t), ("pale", p), ("tint", .flt h'), ("level", .flt l'), ("depth", .flt s')]
noncomputable def fr14 (U : D) (c : Int) (a : Nat) (F : D) (b : Nat) (G : D) (h l s : UInt64) (t p : D) (h' l' s' : UInt64) (y : Int) (k : D) : Fr2 := [("units", U), ("cut", .int c), ("one", colD a), ("first", F), ("two", colD b), ("second", G), ("hue", .flt h), ("light", .flt l), ("share", .flt s), ("third", t), ("pale", p), ("tint", .flt h'), ("level", .flt l'), ("depth", .flt s'), ("beyond", .int y), ("mark", k)]

set_option tactic.hygienic false
theorem dark00 (m : Nat) (U F G : D) (c : Int) : ∃ l, exsL (KK (m + 2)) 56 foldD.scope (fr4 U c 0 F 0 G) (foldD.body.drop 4) = some (.ret (.tup [colD 3, S []]), l) :=
  ⟨_, sc_next (l' := (fr7 U c 0 F 0 G 0 4602678819172646912 4607182418800017408)) rfl (by with_unfolding_all rfl) (sc_next (l' := (fr8 U c 0 F 0 G 0 4602678819172646912 4607182418800017408 (.list [.flt 0, .flt 4607182418800017408, .flt 4607182418800017408]))) rfl (by with_unfolding_all rfl) (sc_ret (l' := (fr8 U c 0 F 0 G 0 4602678819172646912 4607182418800017408 (.list [.flt 0, .flt 4607182418800017408, .flt 4607182418800017408]))) rfl (x_ift rfl (by with_unfolding_all rfl) (sc_ret (l' := (fr8 U c 0 F 0 G 0 4602678819172646912 4607182418800017408 (.list [.flt 0, .flt 4607182418800017408, .flt 4607182418800017408]))) rfl (x_ret rfl (by with_unfolding_all rfl))))))⟩
theorem lit01 (m : Nat) (U F G : D) (c : Int) : ∃ l, exsL (KK (m + 2)) 56 foldD.scope (fr4 U c 0 F 1 G) (foldD.body.drop 4) = exsL (KK (m + 2)) 49 foldD.scope l (foldD.body.drop 11) ∧ Sg l "third" = some (colD 2) ∧ Sg l "mark" = some (S [92, 40]) ∧ Sg l "first" = some F ∧ Sg l "second" = some G :=
  ⟨(fr14 U c 0 F 1 G 4595172819793696085 4598175219545276416 4607182418800017408 (.list [.flt 0, .flt 0, .flt 4607182418800017408]) (.list [.flt 4604930618986332160, .flt 4607182418800017408, .flt 4602678819172646912]) 4598175219545276416 4604930618986332160 4607182418800017408 11 (S [92, 40])), sc_next (l' := (fr7 U c 0 F 1 G 4595172819793696085 4598175219545276416 4607182418800017408)) rfl (by with_unfolding_all rfl) (sc_next (l' := (fr8 U c 0 F 1 G 4595172819793696085 4598175219545276416 4607182418800017408 (.list [.flt 0, .flt 0, .flt 4607182418800017408]))) rfl (by with_unfolding_all rfl) (sc_next (l' := (fr8 U c 0 F 1 G 4595172819793696085 4598175219545276416 4607182418800017408 (.list [.flt 0, .flt 0, .flt 4607182418800017408]))) rfl (x_iff rfl (by with_unfolding_all rfl) (sc_nil rfl)) (sc_next (l' := (fr9 U c 0 F 1 G 4595172819793696085 4598175219545276416 4607182418800017408 (.list [.flt 0, .flt 0, .flt 4607182418800017408]) (.list [.flt 4604930618986332160, .flt 4607182418800017408, .flt 4602678819172646912]))) rfl (by with_unfolding_all rfl) (sc_next (l' := (fr12 U c 0 F 1 G 4595172819793696085 4598175219545276416 4607182418800017408 (.list [.flt 0, .flt 0, .flt 4607182418800017408]) (.list [.flt 4604930618986332160, .flt 4607182418800017408, .flt 4602678819172646912]) 4598175219545276416 4604930618986332160 4607182418800017408)) rfl (by with_unfolding_all rfl) (sc_next (l' := (ins "beyond" (.int 11) (fr12 U c 0 F 1 G 4595172819793696085 4598175219545276416 4607182418800017408 (.list [.flt 0, .flt 0, .flt 4607182418800017408]) (.list [.flt 4604930618986332160, .flt 4607182418800017408, .flt 4602678819172646912]) 4598175219545276416 4604930618986332160 4607182418800017408))) rfl (by with_unfolding_all rfl) (sc_next (l' := (fr14 U c 0 F 1 G 4595172819793696085 4598175219545276416 4607182418800017408 (.list [.flt 0, .flt 0, .flt 4607182418800017408]) (.list [.flt 4604930618986332160, .flt 4607182418800017408, .flt 4602678819172646912]) 4598175219545276416 4604930618986332160 4607182418800017408 11 (S [92, 40]))) rfl (by with_unfolding_all rfl) rfl)))))), rfl, rfl, rfl, rfl⟩
theorem lit02 (m : Nat) (U F G : D) (c : Int) : ∃ l, exsL (KK (m + 2)) 56 foldD.scope (fr4 U c 0 F 2 G) (foldD.body.drop 4) = exsL (KK (m + 2)) 49 foldD.scope l (foldD.body.drop 11) ∧ Sg l "third" = some (colD 1) ∧ Sg l "mark" = some (S [92, 41]) ∧ Sg l "first" = some F ∧ Sg l "second" = some G :=
  ⟨(fr14 U c 0 F 2 G 4605681218924227243 4598175219545276416 4607182418800017408 (.list [.flt 0, .flt 4607182418800017408, .flt 0]) (.list [.flt 4604930618986332160, .flt 4602678819172646912, .flt 4607182418800017408]) 4604930618986332160 4604930618986332160 4607182418800017408 1 (S [92, 41])), sc_next (l' := (fr7 U c 0 F 2 G 4605681218924227243 4598175219545276416 4607182418800017408)) rfl (by with_unfolding_all rfl) (sc_next (l' := (fr8 U c 0 F 2 G 4605681218924227243 4598175219545276416 4607182418800017408 (.list [.flt 0, .flt 4607182418800017408, .flt 0]))) rfl (by with_unfolding_all rfl) (sc_next (l' := (fr8 U c 0 F 2 G 4605681218924227243 4598175219545276416 4607182418800017408 (.list [.flt 0, .flt 4607182418800017408, .flt 0]))) rfl (x_iff rfl (by with_unfolding_all rfl) (sc_nil rfl)) (sc_next (l' := (fr9 U c 0 F 2 G 4605681218924227243 4598175219545276416 4607182418800017408 (.list [.flt 0, .flt 4607182418800017408, .flt 0]) (.list [.flt 4604930618986332160, .flt 4602678819172646912, .flt 4607182418800017408]))) rfl (by with_unfolding_all rfl) (sc_next (l' := (fr12 U c 0 F 2 G 4605681218924227243 4598175219545276416 4607182418800017408 (.list [.flt 0, .flt 4607182418800017408, .flt 0]) (.list [.flt 4604930618986332160, .flt 4602678819172646912, .flt 4607182418800017408]) 4604930618986332160 4604930618986332160 4607182418800017408)) rfl (by with_unfolding_all rfl) (sc_next (l' := (ins "beyond" (.int 1) (fr12 U c 0 F 2 G 4605681218924227243 4598175219545276416 4607182418800017408 (.list [.flt 0, .flt 4607182418800017408, .flt 0]) (.list [.flt 4604930618986332160, .flt 4602678819172646912, .flt 4607182418800017408]) 4604930618986332160 4604930618986332160 4607182418800017408))) rfl (by with_unfolding_all rfl) (sc_next (l' := (fr14 U c 0 F 2 G 4605681218924227243 4598175219545276416 4607182418800017408 (.list [.flt 0, .flt 4607182418800017408, .flt 0]) (.list [.flt 4604930618986332160, .flt 4602678819172646912, .flt 4607182418800017408]) 4604930618986332160 4604930618986332160 4607182418800017408 1 (S [92, 41]))) rfl (by with_unfolding_all rfl) rfl)))))), rfl, rfl, rfl, rfl⟩
theorem dark03 (m : Nat) (U F G : D) (c : Int) : ∃ l, exsL (KK (m + 2)) 56 foldD.scope (fr4 U c 0 F 3 G) (foldD.body.drop 4) = some (.ret (.tup [colD 3, S []]), l) :=
  ⟨_, sc_next (l' := (fr7 U c 0 F 3 G 0 4598175219545276416 4607182418800017408)) rfl (by with_unfolding_all rfl) (sc_next (l' := (fr8 U c 0 F 3 G 0 4598175219545276416 4607182418800017408 (.list [.flt 0, .flt 4607182418800017408, .flt 4607182418800017408]))) rfl (by with_unfolding_all rfl) (sc_ret (l' := (fr8 U c 0 F 3 G 0 4598175219545276416 4607182418800017408 (.list [.flt 0, .flt 4607182418800017408, .flt 4607182418800017408]))) rfl (x_ift rfl (by with_unfolding_all rfl) (sc_ret (l' := (fr8 U c 0 F 3 G 0 4598175219545276416 4607182418800017408 (.list [.flt 0, .flt 4607182418800017408, .flt 4607182418800017408]))) rfl (x_ret rfl (by with_unfolding_all rfl))))))⟩
theorem lit10 (m : Nat) (U F G : D) (c : Int) : ∃ l, exsL (KK (m + 2)) 56 foldD.scope (fr4 U c 1 F 0 G) (foldD.body.drop 4) = exsL (KK (m + 2)) 49 foldD.scope l (foldD.body.drop 11) ∧ Sg l "third" = some (colD 2) ∧ Sg l "mark" = some (S [92, 41]) ∧ Sg l "first" = some F ∧ Sg l "second" = some G :=
  ⟨(fr14 U c 1 F 0 G 4595172819793696085 4598175219545276416 4607182418800017408 (.list [.flt 0, .flt 0, .flt 4607182418800017408]) (.list [.flt 4607182418800017408, .flt 4604930618986332160, .flt 4602678819172646912]) 4590669220166325589 4604930618986332160 4607182418800017408 1 (S [92, 41])), sc_next (l' := (fr7 U c 1 F 0 G 4595172819793696085 4598175219545276416 4607182418800017408)) rfl (by with_unfolding_all rfl) (sc_next (l' := (fr8 U c 1 F 0 G 4595172819793696085 4598175219545276416 4607182418800017408 (.list [.flt 0, .flt 0, .flt 4607182418800017408]))) rfl (by with_unfolding_all rfl) (sc_next (l' := (fr8 U c 1 F 0 G 4595172819793696085 4598175219545276416 4607182418800017408 (.list [.flt 0, .flt 0, .flt 4607182418800017408]))) rfl (x_iff rfl (by with_unfolding_all rfl) (sc_nil rfl)) (sc_next (l' := (fr9 U c 1 F 0 G 4595172819793696085 4598175219545276416 4607182418800017408 (.list [.flt 0, .flt 0, .flt 4607182418800017408]) (.list [.flt 4607182418800017408, .flt 4604930618986332160, .flt 4602678819172646912]))) rfl (by with_unfolding_all rfl) (sc_next (l' := (fr12 U c 1 F 0 G 4595172819793696085 4598175219545276416 4607182418800017408 (.list [.flt 0, .flt 0, .flt 4607182418800017408]) (.list [.flt 4607182418800017408, .flt 4604930618986332160, .flt 4602678819172646912]) 4590669220166325589 4604930618986332160 4607182418800017408)) rfl (by with_unfolding_all rfl) (sc_next (l' := (ins "beyond" (.int 1) (fr12 U c 1 F 0 G 4595172819793696085 4598175219545276416 4607182418800017408 (.list [.flt 0, .flt 0, .flt 4607182418800017408]) (.list [.flt 4607182418800017408, .flt 4604930618986332160, .flt 4602678819172646912]) 4590669220166325589 4604930618986332160 4607182418800017408))) rfl (by with_unfolding_all rfl) (sc_next (l' := (fr14 U c 1 F 0 G 4595172819793696085 4598175219545276416 4607182418800017408 (.list [.flt 0, .flt 0, .flt 4607182418800017408]) (.list [.flt 4607182418800017408, .flt 4604930618986332160, .flt 4602678819172646912]) 4590669220166325589 4604930618986332160 4607182418800017408 1 (S [92, 41]))) rfl (by with_unfolding_all rfl) rfl)))))), rfl, rfl, rfl, rfl⟩
theorem dark11 (m : Nat) (U F G : D) (c : Int) : ∃ l, exsL (KK (m + 2)) 56 foldD.scope (fr4 U c 1 F 1 G) (foldD.body.drop 4) = some (.ret (.tup [colD 3, S []]), l) :=
  ⟨_, sc_next (l' := (fr7 U c 1 F 1 G 4599676419421066581 4602678819172646912 4607182418800017408)) rfl (by with_unfolding_all rfl) (sc_next (l' := (fr8 U c 1 F 1 G 4599676419421066581 4602678819172646912 4607182418800017408 (.list [.flt 4607182418800017408, .flt 0, .flt 4607182418800017408]))) rfl (by with_unfolding_all rfl) (sc_ret (l' := (fr8 U c 1 F 1 G 4599676419421066581 4602678819172646912 4607182418800017408 (.list [.flt 4607182418800017408, .flt 0, .flt 4607182418800017408]))) rfl (x_ift rfl (by with_unfolding_all rfl) (sc_ret (l' := (fr8 U c 1 F 1 G 4599676419421066581 4602678819172646912 4607182418800017408 (.list [.flt 4607182418800017408, .flt 0, .flt 4607182418800017408]))) rfl (x_ret rfl (by with_unfolding_all rfl))))))⟩
theorem lit12 (m : Nat) (U F G : D) (c : Int) : ∃ l, exsL (KK (m + 2)) 56 foldD.scope (fr4 U c 1 F 2 G) (foldD.body.drop 4) = exsL (KK (m + 2)) 49 foldD.scope l (foldD.body.drop 11) ∧ Sg l "third" = some (colD 0) ∧ Sg l "mark" = some (S [92, 40]) ∧ Sg l "first" = some F ∧ Sg l "second" = some G :=
  ⟨(fr14 U c 1 F 2 G 4602678819172646912 4598175219545276416 4607182418800017408 (.list [.flt 4607182418800017408, .flt 0, .flt 0]) (.list [.flt 4602678819172646912, .flt 4604930618986332160, .flt 4607182418800017408]) 4603429419110541995 4604930618986332160 4607182418800017408 11 (S [92, 40])), sc_next (l' := (fr7 U c 1 F 2 G 4602678819172646912 4598175219545276416 4607182418800017408)) rfl (by with_unfolding_all rfl) (sc_next (l' := (fr8 U c 1 F 2 G 4602678819172646912 4598175219545276416 4607182418800017408 (.list [.flt 4607182418800017408, .flt 0, .flt 0]))) rfl (by with_unfolding_all rfl) (sc_next (l' := (fr8 U c 1 F 2 G 4602678819172646912 4598175219545276416 4607182418800017408 (.list [.flt 4607182418800017408, .flt 0, .flt 0]))) rfl (x_iff rfl (by with_unfolding_all rfl) (sc_nil rfl)) (sc_next (l' := (fr9 U c 1 F 2 G 4602678819172646912 4598175219545276416 4607182418800017408 (.list [.flt 4607182418800017408, .flt 0, .flt 0]) (.list [.flt 4602678819172646912, .flt 4604930618986332160, .flt 4607182418800017408]))) rfl (by with_unfolding_all rfl) (sc_next (l' := (fr12 U c 1 F 2 G 4602678819172646912 4598175219545276416 4607182418800017408 (.list [.flt 4607182418800017408, .flt 0, .flt 0]) (.list [.flt 4602678819172646912, .flt 4604930618986332160, .flt 4607182418800017408]) 4603429419110541995 4604930618986332160 4607182418800017408)) rfl (by with_unfolding_all rfl) (sc_next (l' := (ins "beyond" (.int 11) (fr12 U c 1 F 2 G 4602678819172646912 4598175219545276416 4607182418800017408 (.list [.flt 4607182418800017408, .flt 0, .flt 0]) (.list [.flt 4602678819172646912, .flt 4604930618986332160, .flt 4607182418800017408]) 4603429419110541995 4604930618986332160 4607182418800017408))) rfl (by with_unfolding_all rfl) (sc_next (l' := (fr14 U c 1 F 2 G 4602678819172646912 4598175219545276416 4607182418800017408 (.list [.flt 4607182418800017408, .flt 0, .flt 0]) (.list [.flt 4602678819172646912, .flt 4604930618986332160, .flt 4607182418800017408]) 4603429419110541995 4604930618986332160 4607182418800017408 11 (S [92, 40]))) rfl (by with_unfolding_all rfl) rfl)))))), rfl, rfl, rfl, rfl⟩
theorem dark13 (m : Nat) (U F G : D) (c : Int) : ∃ l, exsL (KK (m + 2)) 56 foldD.scope (fr4 U c 1 F 3 G) (foldD.body.drop 4) = some (.ret (.tup [colD 3, S []]), l) :=
  ⟨_, sc_next (l' := (fr7 U c 1 F 3 G 4599676419421066581 4598175219545276416 4607182418800017408)) rfl (by with_unfolding_all rfl) (sc_next (l' := (fr8 U c 1 F 3 G 4599676419421066581 4598175219545276416 4607182418800017408 (.list [.flt 4607182418800017408, .flt 0, .flt 4607182418800017408]))) rfl (by with_unfolding_all rfl) (sc_ret (l' := (fr8 U c 1 F 3 G 4599676419421066581 4598175219545276416 4607182418800017408 (.list [.flt 4607182418800017408, .flt 0, .flt 4607182418800017408]))) rfl (x_ift rfl (by with_unfolding_all rfl) (sc_ret (l' := (fr8 U c 1 F 3 G 4599676419421066581 4598175219545276416 4607182418800017408 (.list [.flt 4607182418800017408, .flt 0, .flt 4607182418800017408]))) rfl (x_ret rfl (by with_unfolding_all rfl))))))⟩
theorem lit20 (m : Nat) (U F G : D) (c : Int) : ∃ l, exsL (KK (m + 2)) 56 foldD.scope (fr4 U c 2 F 0 G) (foldD.body.drop 4) = exsL (KK (m + 2)) 49 foldD.scope l (foldD.body.drop 11) ∧ Sg l "third" = some (colD 1) ∧ Sg l "mark" = some (S [92, 40]) ∧ Sg l "first" = some F ∧ Sg l "second" = some G :=
  ⟨(fr14 U c 2 F 0 G 4605681218924227243 4598175219545276416 4607182418800017408 (.list [.flt 0, .flt 4607182418800017408, .flt 0]) (.list [.flt 4607182418800017408, .flt 4602678819172646912, .flt 4604930618986332160]) 4606431818862122325 4604930618986332160 4607182418800017408 11 (S [92, 40])), sc_next (l' := (fr7 U c 2 F 0 G 4605681218924227243 4598175219545276416 4607182418800017408)) rfl (by with_unfolding_all rfl) (sc_next (l' := (fr8 U c 2 F 0 G 4605681218924227243 4598175219545276416 4607182418800017408 (.list [.flt 0, .flt 4607182418800017408, .flt 0]))) rfl (by with_unfolding_all rfl) (sc_next (l' := (fr8 U c 2 F 0 G 4605681218924227243 4598175219545276416 4607182418800017408 (.list [.flt 0, .flt 4607182418800017408, .flt 0]))) rfl (x_iff rfl (by with_unfolding_all rfl) (sc_nil rfl)) (sc_next (l' := (fr9 U c 2 F 0 G 4605681218924227243 4598175219545276416 4607182418800017408 (.list [.flt 0, .flt 4607182418800017408, .flt 0]) (.list [.flt 4607182418800017408, .flt 4602678819172646912, .flt 4604930618986332160]))) rfl (by with_unfolding_all rfl) (sc_next (l' := (fr12 U c 2 F 0 G 4605681218924227243 4598175219545276416 4607182418800017408 (.list [.flt 0, .flt 4607182418800017408, .flt 0]) (.list [.flt 4607182418800017408, .flt 4602678819172646912, .flt 4604930618986332160]) 4606431818862122325 4604930618986332160 4607182418800017408)) rfl (by with_unfolding_all rfl) (sc_next (l' := (ins "beyond" (.int 11) (fr12 U c 2 F 0 G 4605681218924227243 4598175219545276416 4607182418800017408 (.list [.flt 0, .flt 4607182418800017408, .flt 0]) (.list [.flt 4607182418800017408, .flt 4602678819172646912, .flt 4604930618986332160]) 4606431818862122325 4604930618986332160 4607182418800017408))) rfl (by with_unfolding_all rfl) (sc_next (l' := (fr14 U c 2 F 0 G 4605681218924227243 4598175219545276416 4607182418800017408 (.list [.flt 0, .flt 4607182418800017408, .flt 0]) (.list [.flt 4607182418800017408, .flt 4602678819172646912, .flt 4604930618986332160]) 4606431818862122325 4604930618986332160 4607182418800017408 11 (S [92, 40]))) rfl (by with_unfolding_all rfl) rfl)))))), rfl, rfl, rfl, rfl⟩
theorem lit21 (m : Nat) (U F G : D) (c : Int) : ∃ l, exsL (KK (m + 2)) 56 foldD.scope (fr4 U c 2 F 1 G) (foldD.body.drop 4) = exsL (KK (m + 2)) 49 foldD.scope l (foldD.body.drop 11) ∧ Sg l "third" = some (colD 0) ∧ Sg l "mark" = some (S [92, 41]) ∧ Sg l "first" = some F ∧ Sg l "second" = some G :=
  ⟨(fr14 U c 2 F 1 G 4602678819172646912 4598175219545276416 4607182418800017408 (.list [.flt 4607182418800017408, .flt 0, .flt 0]) (.list [.flt 4602678819172646912, .flt 4607182418800017408, .flt 4604930618986332160]) 4601177619296856747 4604930618986332160 4607182418800017408 1 (S [92, 41])), sc_next (l' := (fr7 U c 2 F 1 G 4602678819172646912 4598175219545276416 4607182418800017408)) rfl (by with_unfolding_all rfl) (sc_next (l' := (fr8 U c 2 F 1 G 4602678819172646912 4598175219545276416 4607182418800017408 (.list [.flt 4607182418800017408, .flt 0, .flt 0]))) rfl (by with_unfolding_all rfl) (sc_next (l' := (fr8 U c 2 F 1 G 4602678819172646912 4598175219545276416 4607182418800017408 (.list [.flt 4607182418800017408, .flt 0, .flt 0]))) rfl (x_iff rfl (by with_unfolding_all rfl) (sc_nil rfl)) (sc_next (l' := (fr9 U c 2 F 1 G 4602678819172646912 4598175219545276416 4607182418800017408 (.list [.flt 4607182418800017408, .flt 0, .flt 0]) (.list [.flt 4602678819172646912, .flt 4607182418800017408, .flt 4604930618986332160]))) rfl (by with_unfolding_all rfl) (sc_next (l' := (fr12 U c 2 F 1 G 4602678819172646912 4598175219545276416 4607182418800017408 (.list [.flt 4607182418800017408, .flt 0, .flt 0]) (.list [.flt 4602678819172646912, .flt 4607182418800017408, .flt 4604930618986332160]) 4601177619296856747 4604930618986332160 4607182418800017408)) rfl (by with_unfolding_all rfl) (sc_next (l' := (ins "beyond" (.int 1) (fr12 U c 2 F 1 G 4602678819172646912 4598175219545276416 4607182418800017408 (.list [.flt 4607182418800017408, .flt 0, .flt 0]) (.list [.flt 4602678819172646912, .flt 4607182418800017408, .flt 4604930618986332160]) 4601177619296856747 4604930618986332160 4607182418800017408))) rfl (by with_unfolding_all rfl) (sc_next (l' := (fr14 U c 2 F 1 G 4602678819172646912 4598175219545276416 4607182418800017408 (.list [.flt 4607182418800017408, .flt 0, .flt 0]) (.list [.flt 4602678819172646912, .flt 4607182418800017408, .flt 4604930618986332160]) 4601177619296856747 4604930618986332160 4607182418800017408 1 (S [92, 41]))) rfl (by with_unfolding_all rfl) rfl)))))), rfl, rfl, rfl, rfl⟩
theorem dark22 (m : Nat) (U F G : D) (c : Int) : ∃ l, exsL (KK (m + 2)) 56 foldD.scope (fr4 U c 2 F 2 G) (foldD.body.drop 4) = some (.ret (.tup [colD 3, S []]), l) :=
  ⟨_, sc_next (l' := (fr7 U c 2 F 2 G 4604180019048437077 4602678819172646912 4607182418800017408)) rfl (by with_unfolding_all rfl) (sc_next (l' := (fr8 U c 2 F 2 G 4604180019048437077 4602678819172646912 4607182418800017408 (.list [.flt 4607182418800017408, .flt 4607182418800017408, .flt 0]))) rfl (by with_unfolding_all rfl) (sc_ret (l' := (fr8 U c 2 F 2 G 4604180019048437077 4602678819172646912 4607182418800017408 (.list [.flt 4607182418800017408, .flt 4607182418800017408, .flt 0]))) rfl (x_ift rfl (by with_unfolding_all rfl) (sc_ret (l' := (fr8 U c 2 F 2 G 4604180019048437077 4602678819172646912 4607182418800017408 (.list [.flt 4607182418800017408, .flt 4607182418800017408, .flt 0]))) rfl (x_ret rfl (by with_unfolding_all rfl))))))⟩
theorem dark23 (m : Nat) (U F G : D) (c : Int) : ∃ l, exsL (KK (m + 2)) 56 foldD.scope (fr4 U c 2 F 3 G) (foldD.body.drop 4) = some (.ret (.tup [colD 3, S []]), l) :=
  ⟨_, sc_next (l' := (fr7 U c 2 F 3 G 4604180019048437077 4598175219545276416 4607182418800017408)) rfl (by with_unfolding_all rfl) (sc_next (l' := (fr8 U c 2 F 3 G 4604180019048437077 4598175219545276416 4607182418800017408 (.list [.flt 4607182418800017408, .flt 4607182418800017408, .flt 0]))) rfl (by with_unfolding_all rfl) (sc_ret (l' := (fr8 U c 2 F 3 G 4604180019048437077 4598175219545276416 4607182418800017408 (.list [.flt 4607182418800017408, .flt 4607182418800017408, .flt 0]))) rfl (x_ift rfl (by with_unfolding_all rfl) (sc_ret (l' := (fr8 U c 2 F 3 G 4604180019048437077 4598175219545276416 4607182418800017408 (.list [.flt 4607182418800017408, .flt 4607182418800017408, .flt 0]))) rfl (x_ret rfl (by with_unfolding_all rfl))))))⟩
theorem dark30 (m : Nat) (U F G : D) (c : Int) : ∃ l, exsL (KK (m + 2)) 56 foldD.scope (fr4 U c 3 F 0 G) (foldD.body.drop 4) = some (.ret (.tup [colD 3, S []]), l) :=
  ⟨_, sc_next (l' := (fr7 U c 3 F 0 G 0 4598175219545276416 4607182418800017408)) rfl (by with_unfolding_all rfl) (sc_next (l' := (fr8 U c 3 F 0 G 0 4598175219545276416 4607182418800017408 (.list [.flt 0, .flt 4607182418800017408, .flt 4607182418800017408]))) rfl (by with_unfolding_all rfl) (sc_ret (l' := (fr8 U c 3 F 0 G 0 4598175219545276416 4607182418800017408 (.list [.flt 0, .flt 4607182418800017408, .flt 4607182418800017408]))) rfl (x_ift rfl (by with_unfolding_all rfl) (sc_ret (l' := (fr8 U c 3 F 0 G 0 4598175219545276416 4607182418800017408 (.list [.flt 0, .flt 4607182418800017408, .flt 4607182418800017408]))) rfl (x_ret rfl (by with_unfolding_all rfl))))))⟩
theorem dark31 (m : Nat) (U F G : D) (c : Int) : ∃ l, exsL (KK (m + 2)) 56 foldD.scope (fr4 U c 3 F 1 G) (foldD.body.drop 4) = some (.ret (.tup [colD 3, S []]), l) :=
  ⟨_, sc_next (l' := (fr7 U c 3 F 1 G 4599676419421066581 4598175219545276416 4607182418800017408)) rfl (by with_unfolding_all rfl) (sc_next (l' := (fr8 U c 3 F 1 G 4599676419421066581 4598175219545276416 4607182418800017408 (.list [.flt 4607182418800017408, .flt 0, .flt 4607182418800017408]))) rfl (by with_unfolding_all rfl) (sc_ret (l' := (fr8 U c 3 F 1 G 4599676419421066581 4598175219545276416 4607182418800017408 (.list [.flt 4607182418800017408, .flt 0, .flt 4607182418800017408]))) rfl (x_ift rfl (by with_unfolding_all rfl) (sc_ret (l' := (fr8 U c 3 F 1 G 4599676419421066581 4598175219545276416 4607182418800017408 (.list [.flt 4607182418800017408, .flt 0, .flt 4607182418800017408]))) rfl (x_ret rfl (by with_unfolding_all rfl))))))⟩
theorem dark32 (m : Nat) (U F G : D) (c : Int) : ∃ l, exsL (KK (m + 2)) 56 foldD.scope (fr4 U c 3 F 2 G) (foldD.body.drop 4) = some (.ret (.tup [colD 3, S []]), l) :=
  ⟨_, sc_next (l' := (fr7 U c 3 F 2 G 4604180019048437077 4598175219545276416 4607182418800017408)) rfl (by with_unfolding_all rfl) (sc_next (l' := (fr8 U c 3 F 2 G 4604180019048437077 4598175219545276416 4607182418800017408 (.list [.flt 4607182418800017408, .flt 4607182418800017408, .flt 0]))) rfl (by with_unfolding_all rfl) (sc_ret (l' := (fr8 U c 3 F 2 G 4604180019048437077 4598175219545276416 4607182418800017408 (.list [.flt 4607182418800017408, .flt 4607182418800017408, .flt 0]))) rfl (x_ift rfl (by with_unfolding_all rfl) (sc_ret (l' := (fr8 U c 3 F 2 G 4604180019048437077 4598175219545276416 4607182418800017408 (.list [.flt 4607182418800017408, .flt 4607182418800017408, .flt 0]))) rfl (x_ret rfl (by with_unfolding_all rfl))))))⟩
theorem dark33 (m : Nat) (U F G : D) (c : Int) : ∃ l, exsL (KK (m + 2)) 56 foldD.scope (fr4 U c 3 F 3 G) (foldD.body.drop 4) = some (.ret (.tup [colD 3, S []]), l) :=
  ⟨_, sc_next (l' := (fr7 U c 3 F 3 G 0 0 0)) rfl (by with_unfolding_all rfl) (sc_next (l' := (fr8 U c 3 F 3 G 0 0 0 (.list [.flt 4602678819172646912, .flt 4602678819172646912, .flt 4602678819172646912]))) rfl (by with_unfolding_all rfl) (sc_ret (l' := (fr8 U c 3 F 3 G 0 0 0 (.list [.flt 4602678819172646912, .flt 4602678819172646912, .flt 4602678819172646912]))) rfl (x_ift rfl (by with_unfolding_all rfl) (sc_ret (l' := (fr8 U c 3 F 3 G 0 0 0 (.list [.flt 4602678819172646912, .flt 4602678819172646912, .flt 4602678819172646912]))) rfl (x_ret rfl (by with_unfolding_all rfl))))))⟩
end Mine
end

section
open PySem PySem.W PyProof.Rows
set_option maxRecDepth 100000
set_option maxHeartbeats 4000000
namespace Mine
variable {K : Know} {n : Nat} {sc : Scope} {σ : Sig} {l l' : Fr2} {st : Stmt} {b rest : List Stmt} {r : Option (Fl × Fr2)} {d : D}

inductive Tm where
  | lf
  | nd (f : Nat) (l r : Tm)
noncomputable def Tm.size : Tm → Nat
  | .lf => 1
  | .nd _ l r => l.size + r.size
set_option tactic.hygienic false
theorem Tm.pos : ∀ t : Tm, 1 ≤ t.size
  | .lf => Nat.le_refl _
  | .nd _ l r => by have := Tm.pos l; simp only [Tm.size]; omega
noncomputable def Tm.good : Tm → Prop
  | .lf => True
  | .nd f l r => (f = 1 ∨ f = 2) ∧ l.good ∧ r.good
noncomputable def UT (mk : Nat → List (List Nat)) (g : Nat → Nat) : Nat → Tm → List (List Nat)
  | a, .lf => [[92, g a]]
  | a, .nd f l r => [40] :: ((mk f ++ UT mk g a l) ++ [41] :: UT mk g (a + l.size) r)
noncomputable def mk0 (_ : Nat) : List (List Nat) := []
noncomputable def mk1 (f : Nat) : List (List Nat) := if f = 1 then [[92, 40]] else [[92, 41]]
noncomputable def dot (_ : Nat) : Nat := 46
structure MkOK (mk : Nat → List (List Nat)) : Prop where
  u : ∀ f, ∀ x ∈ mk f, ∃ c, x = [92, c] ∧ c ≠ 34
  l : ∀ f, (mk f).length ≤ 1
theorem mk0_ok : MkOK mk0 := ⟨fun f x h => by simp [mk0] at h, fun f => by simp [mk0]⟩
theorem mk1_ok : MkOK mk1 := ⟨fun f x h => by
  unfold mk1 at h; split at h <;> simp at h <;> subst h
  · exact ⟨40, rfl, by decide⟩
  · exact ⟨41, rfl, by decide⟩, fun f => by unfold mk1; split <;> simp⟩
section
variable {mk : Nat → List (List Nat)} {g : Nat → Nat}
theorem UT_ne (a : Nat) : ∀ t, UT mk g a t ≠ []
  | .lf => by simp [UT]
  | .nd f l r => by simp [UT]
theorem UT_wf (hm : MkOK mk) : ∀ t a, ∀ u ∈ UT mk g a t, WFu u
  | .lf, a, u, h => by simp [UT] at h; subst h; exact .inr ⟨_, rfl⟩
  | .nd f l r, a, u, h => by
    simp only [UT, List.mem_cons, List.mem_append] at h
    rcases h with rfl | (h | h) | rfl | h
    · exact .inl ⟨40, rfl, by decide⟩
    · obtain ⟨c, rfl, _⟩ := hm.u f u h; exact .inr ⟨c, rfl⟩
    · exact UT_wf hm l _ u h
    · exact .inl ⟨41, rfl, by decide⟩
    · exact UT_wf hm r _ u h
theorem UT_q (hm : MkOK mk) (hg : ∀ i, g i ≠ 34) : ∀ t a, (34 : Nat) ∉ (UT mk g a t).flatten
  | .lf, a => by simp [UT]; exact fun h => hg a h.symm
  | .nd f l r, a => by
    have h1 := UT_q hm hg l a
    have h2 := UT_q hm hg r (a + l.size)
    have h3 : (34 : Nat) ∉ (mk f).flatten := by
      intro h
      obtain ⟨x, hx, h⟩ := List.mem_flatten.mp h
      obtain ⟨c, rfl, hc⟩ := hm.u f x hx
      simp at h; exact hc h.symm
    simp only [UT, List.flatten_cons, List.flatten_append, List.mem_append, not_or]
    refine ⟨by simp, ⟨h3, h1⟩, by simp, h2⟩
theorem opv92 (c : Nat) : opv [92, c] = 0 := by simp [opv]
theorem mk_opns (hm : MkOK mk) (f : Nat) : opns (mk f) = 0 ∧ nn 0 (mk f) := by
  have key : ∀ us : List (List Nat), (∀ x ∈ us, ∃ c, x = [92, c] ∧ c ≠ 34) → opns us = 0 ∧ nn 0 us := by
    intro us
    induction us with
    | nil => exact fun zz => ⟨rfl, trivial⟩
    | cons u us ih =>
      intro h
      obtain ⟨c, rfl, _⟩ := h u (by simp)
      have := ih fun x hx => h x (List.mem_cons_of_mem _ hx)
      simp [opns, nn, opv92, this]
  exact key _ (hm.u f)
theorem UT_bal (hm : MkOK mk) : ∀ t a, opns (UT mk g a t) = 0 ∧ nn 0 (UT mk g a t)
  | .lf, a => by simp [UT, opns, nn, opv92]
  | .nd f l r, a => by
    obtain ⟨h1, h2⟩ := UT_bal hm l a
    obtain ⟨h3, h4⟩ := UT_bal hm r (a + l.size)
    obtain ⟨h5, h6⟩ := mk_opns hm f
    have e1 : opv [40] = 1 := by simp [opv]
    have e2 : opv [41] = -1 := by simp [opv]
    constructor
    · simp [UT, opns, opns_app, h1, h3, h5, e1, e2]
    · simp only [UT, nn, nn_app, opns_app, h5, h1, e1, e2]
      exact ⟨by omega, ⟨nn_mono _ 0 _ (by omega) h6, nn_mono _ 0 _ (by omega) h2⟩, by omega, h4⟩
theorem bd_bal (hm : MkOK mk) (f a : Nat) (l : Tm) : nn 0 (mk f ++ UT mk g a l) ∧ opns (mk f ++ UT mk g a l) = 0 := by
  obtain ⟨h1, h2⟩ := UT_bal (g := g) hm l a
  obtain ⟨h5, h6⟩ := mk_opns hm f
  rw [nn_app, opns_app, h1, h5]
  exact ⟨⟨h6, h2⟩, rfl⟩
theorem UT_len (hm : MkOK mk) : ∀ t a, (UT mk g a t).length + 3 ≤ 4 * t.size
  | .lf, a => by simp [UT, Tm.size]
  | .nd f l r, a => by
    have h1 := UT_len hm l a
    have h2 := UT_len hm r (a + l.size)
    have h3 := hm.l f
    simp only [UT, List.length_cons, List.length_append, Tm.size]
    omega
theorem flat_len : ∀ us : List (List Nat), (∀ u ∈ us, WFu u) → us.flatten.length ≤ 2 * us.length
  | [], _ => by simp
  | u :: us, h => by
    have := flat_len us fun x hx => h x (List.mem_cons_of_mem _ hx)
    rcases h u (by simp) with ⟨c, rfl, _⟩ | ⟨c, rfl⟩ <;> simp only [List.flatten_cons, List.length_append, List.length_cons, List.length_nil] <;> omega
theorem UT_flat (hm : MkOK mk) (t : Tm) (a : Nat) : (UT mk g a t).flatten.length + 6 ≤ 8 * t.size := by
  have h1 := UT_len (g := g) hm t a
  have h2 := flat_len _ (UT_wf (g := g) hm t a)
  omega
theorem cut_tree (hm : MkOK mk) (hg : ∀ i, g i ≠ 34) (m f a : Nat) (l r : Tm) (hs : (Tm.nd f l r).size ≤ 100) : (KK (m + 3)).Φ "_law_cut" [.list ((UT mk g a (.nd f l r)).map S)] = some (.int ((mk f ++ UT mk g a l).length + 2)) :=
  cut_run m _ _ (UT_wf hm (.nd f l r) a) (UT_q hm hg (.nd f l r) a) (by have := UT_flat (g := g) hm (.nd f l r) a; simp only [UT] at this; omega) (by have := UT_len (g := g) hm (.nd f l r) a; simp only [UT] at this; omega) (UT_ne _ _) (bd_bal hm f a l).1 (bd_bal hm f a l).2
end

theorem add_S (a b : List Nat) (h : (a ++ b).length ≤ 1000) : binD .Add (S a) (S b) = some (S (a ++ b)) := by
  show strD _ = _
  rw [str_app]; exact strD_S (by unfold big; omega)

noncomputable def ufD : DefRec := theD "_law_unfold"
noncomputable def col : Tm → Nat → Nat → Nat → Nat
  | .lf, c, _, _ => c
  | .nd f l r, c, a, i => if i < a + l.size then col l ((c + f) % 3) a i else col r ((c + 2 * f) % 3) (a + l.size) i
theorem UT_congr {mk : Nat → List (List Nat)} {g g' : Nat → Nat} : ∀ (t : Tm) (a : Nat), (∀ i, a ≤ i → i < a + t.size → g i = g' i) → UT mk g a t = UT mk g' a t
  | .lf, a, h => by simp only [UT]; rw [h a (Nat.le_refl _) (by simp [Tm.size])]
  | .nd f l r, a, h => by
    simp only [UT]
    rw [UT_congr l a fun i h1 h2 => h i h1 (by simp only [Tm.size]; omega), UT_congr r (a + l.size) fun i h1 h2 => h i (by omega) (by simp only [Tm.size]; omega)]
noncomputable def fu (U C : D) : Fr2 := [("units", U), ("colour", C)]
noncomputable def fu2 (U C : D) (c : Int) : Fr2 := [("units", U), ("colour", C), ("cut", .int c)]
noncomputable def fu3 (U C : D) (c t : Int) : Fr2 := [("units", U), ("colour", C), ("cut", .int c), ("thirds", .int t)]
noncomputable def fu4 (U C : D) (c t : Int) (L : D) : Fr2 := [("units", U), ("colour", C), ("cut", .int c), ("thirds", .int t), ("left", L)]

theorem eq_one (u w : List Nat) : eqD (.list [S u]) (.list [S w]) = some (((⟨u.toArray⟩ : Str) == ⟨w.toArray⟩) && true) := rfl

theorem unfold_lf (m : Nat) (c : Nat) (hc : c < 3) (x : Nat) : (KK (m + 4)).Φ "_law_unfold" [.list [S [92, x]], colD c] = some (S [92, code c]) := by
  have ht : tr (KK (m + 3)) 58 ufD.scope (Sg (fu (.list [S [92, x]]) (colD c))) (sx (stAt ufD.body 0) 0) = some true := by
    refine tr_cmp rfl (by decide) (ev_slice rfl rfl rfl (bnd_nat 1 (by omega) rfl) (sl_to _ _)) (ev_list (ds := [S [40]]) rfl rfl (by simp)) ?_
    show (eqD (.list [S [92, x]]) (.list [S [40]])).map (!·) = _
    rw [eq_one, strEqL (by simp)]; rfl
  refine Phi_of (dr := ufD) rfl rfl (run_ret (l := fu (.list [S [92, x]]) (colD c)) (l' := fu (.list [S [92, x]]) (colD c)) rfl (sc_ret (l' := fu (.list [S [92, x]]) (colD c)) rfl (x_ift rfl ht (sc_ret (l' := fu (.list [S [92, x]]) (colD c)) rfl (x_ret rfl (ev_bin (x := S [92]) (y := S [code c]) rfl rfl rfl rfl (ev_call [colD c] rfl rfl rfl rfl (seq1 rfl) (letter_tab (m + 1) c hc)) (add_S _ _ (by simp))))))))
theorem list_in {us : List (List Nat)} {v : List (List Nat)} (h : us = v) : D.list (us.map S) = D.list (v.map S) := by rw [h]
theorem drop_bd (u w : List Nat) (x r : List (List Nat)) : (u :: (x ++ w :: r)).drop (x.length + 2) = r := by
  rw [List.drop_succ_cons, List.drop_append, List.drop_of_length_le (by omega), show x.length + 1 - x.length = 1 by omega]; rfl
theorem unfold_run : ∀ (t : Tm) (m c a : Nat), t.good → c < 3 → t.size ≤ 100 → t.size ≤ m + 1 → (KK (m + 4)).Φ "_law_unfold" [.list ((UT mk1 dot a t).map S), colD c] = some (S (UT mk0 (fun i => code (col t c a i)) a t).flatten)
  | .lf, m, c, a, _, hc, _, _ => by
    rw [show (UT mk0 (fun i => code (col .lf c a i)) a .lf).flatten = [92, code c] by simp [UT, col]]
    exact unfold_lf m c hc _
  | .nd f l r, m, c, a, hg, hc, hs, hm => by
    obtain ⟨hf, hgl, hgr⟩ := hg
    have pl := Tm.pos l
    have pr := Tm.pos r
    have hsz : (Tm.nd f l r).size = l.size + r.size := rfl
    obtain ⟨m, rfl⟩ : ∃ k, m = k + 1 := ⟨m - 1, by omega⟩
    have ihl := unfold_run l m ((c + f) % 3) a hgl (Nat.mod_lt _ (by omega)) (by omega) (by omega)
    have ihr := unfold_run r m ((c + 2 * f) % 3) (a + l.size) hgr (Nat.mod_lt _ (by omega)) (by omega) (by omega)
    have hcut := cut_tree (g := dot) mk1_ok (by intro i; simp [dot]) (m + 1) f a l r hs
    have hlen := UT_len (g := dot) mk1_ok (.nd f l r) a
    have hlenL := UT_len (g := dot) mk1_ok l a
    have hmk : (mk1 f).length = 1 := by unfold mk1; split <;> rfl
    generalize hU : UT mk1 dot a (.nd f l r) = us at *
    have hU' : us = [40] :: ((mk1 f ++ UT mk1 dot a l) ++ [41] :: UT mk1 dot (a + l.size) r) := hU.symm
    generalize hB : (mk1 f ++ UT mk1 dot a l).length = B at *
    have hB' : B = 1 + (UT mk1 dot a l).length := by rw [← hB, List.length_append, hmk]
    have hBl : B + 2 ≤ us.length := by rw [hU']; simp only [List.length_cons, List.length_append] at hB ⊢; omega
    -- the test
    have ht : tr (KK (m + 4)) 58 ufD.scope (Sg (fu (.list (us.map S)) (colD c))) (sx (stAt ufD.body 0) 0) = some false := by
      refine tr_cmp rfl (by decide) (ev_slice rfl rfl rfl (bnd_nat 1 (by omega) rfl) (sl_to _ _)) (ev_list (ds := [S [40]]) rfl rfl (by simp)) ?_
      rw [hU']; rfl
    -- thirds
    have hth : ev (KK (m + 4)) 56 ufD.scope (Sg (fu2 (.list (us.map S)) (colD c) (B + 2))) (sx (stAt ufD.body 2) 0) = some (.int (f : Nat)) := by
      refine ev_if (c := decide (f = 1)) rfl (tr_cmp rfl (by decide) (ev_slice rfl rfl (bnd_nat 1 (by omega) rfl) (bnd_nat 2 (by omega) rfl) (sl_mid _ _ _ (by rw [List.length_map]; omega))) (ev_list (ds := [S [92, 40]]) rfl rfl (by simp)) ?_) ?_
      · rw [hU']
        rcases hf with rfl | rfl <;> rfl
      · rcases hf with rfl | rfl <;> rfl
    -- the left one
    have hleft : ev (KK (m + 4)) 55 ufD.scope (Sg (fu3 (.list (us.map S)) (colD c) (B + 2) (f : Nat))) (sx (stAt ufD.body 3) 0) = some (S (UT mk0 (fun i => code (col l ((c + f) % 3) a i)) a l).flatten) := by
      refine ev_call [.list ((UT mk1 dot a l).map S), colD ((c + f) % 3)] rfl rfl rfl rfl (seq2 (ev_slice rfl rfl (bnd_nat 2 (by omega) rfl) (bnd_nat (B + 1) (by omega) (ev_bin (x := .int (B + 2)) (y := .int 1) rfl rfl rfl rfl rfl ?_)) ?_) (ev_call [colD c, .int (f : Nat)] rfl rfl rfl rfl (seq2 rfl rfl) ?_)) ihl
      · show some (D.int (_ + 2 - 1)) = _
        rw [show ((B : Int) + 2 - 1) = ((B + 1 : Nat) : Int) by omega]
      · rw [sl_mid _ _ _ (by rw [List.length_map]; omega)]
        rw [hU', ← List.map_drop, ← List.map_take]
        refine congrArg some (list_in ?_)
        have e1 : B + 1 - 2 = (UT mk1 dot a l).length := by omega
        rw [e1]
        unfold mk1; split <;> simp
      · exact turn_tab (m + 2) c hc f (hf.imp id .inl)
    have hright : ev (KK (m + 4)) 53 ufD.scope (Sg (fu4 (.list (us.map S)) (colD c) (B + 2) (f : Nat) (S (UT mk0 (fun i => code (col l ((c + f) % 3) a i)) a l).flatten))) (kid (sx (stAt ufD.body 4) 0) 1) = some (S (UT mk0 (fun i => code (col r ((c + 2 * f) % 3) (a + l.size) i)) (a + l.size) r).flatten) := by
      refine ev_call [.list ((UT mk1 dot (a + l.size) r).map S), colD ((c + 2 * f) % 3)] rfl rfl rfl rfl (seq2 (ev_slice rfl rfl (bnd_nat (B + 2) (by omega) rfl) rfl ?_) (ev_call [colD c, .int ((2 * f : Nat) : Int)] rfl rfl rfl rfl (seq2 rfl ?_) ?_)) ihr
      · rw [sl_from, hU', ← List.map_drop]
        refine congrArg some (list_in ?_)
        have e1 : B + 2 = (mk1 f ++ UT mk1 dot a l).length + 2 := by rw [hB]
        rw [e1, drop_bd]
      · rcases hf with rfl | rfl <;> rfl
      · exact turn_tab (m + 2) c hc (2 * f) (by omega)
    have fl1 := UT_flat (g := fun i => code (col l ((c + f) % 3) a i)) mk0_ok l a
    have fl2 := UT_flat (g := fun i => code (col r ((c + 2 * f) % 3) (a + l.size) i)) mk0_ok r (a + l.size)
    have hres : (UT mk0 (fun i => code (col (.nd f l r) c a i)) a (.nd f l r)).flatten = (([40] ++ (UT mk0 (fun i => code (col l ((c + f) % 3) a i)) a l).flatten) ++ [41]) ++ (UT mk0 (fun i => code (col r ((c + 2 * f) % 3) (a + l.size) i)) (a + l.size) r).flatten := by
      simp only [UT]
      rw [UT_congr (g := fun i => code (col (.nd f l r) c a i)) (g' := fun i => code (col l ((c + f) % 3) a i)) l a fun i h1 h2 => by simp only [col, if_pos h2],
        UT_congr (g := fun i => code (col (.nd f l r) c a i)) (g' := fun i => code (col r ((c + 2 * f) % 3) (a + l.size) i)) r (a + l.size) fun i h1 h2 => by simp only [col, if_neg (Nat.not_lt.mpr h1)]]
      simp [mk0]
    rw [hres]
    refine Phi_of (dr := ufD) rfl rfl (run_ret (l := fu (.list (us.map S)) (colD c)) (l' := fu4 (.list (us.map S)) (colD c) (B + 2) (f : Nat) (S (UT mk0 (fun i => code (col l ((c + f) % 3) a i)) a l).flatten)) rfl
      (sc_next (l' := fu (.list (us.map S)) (colD c)) rfl (x_iff rfl ht (sc_nil rfl))
      (sc_next (l' := fu2 (.list (us.map S)) (colD c) (B + 2)) rfl (x_asg rfl rfl (ev_call [.list (us.map S)] rfl rfl rfl rfl (seq1 rfl) hcut) rfl)
      (sc_next (l' := fu3 (.list (us.map S)) (colD c) (B + 2) (f : Nat)) rfl (x_asg rfl rfl hth rfl)
      (sc_next (l' := fu4 (.list (us.map S)) (colD c) (B + 2) (f : Nat) (S (UT mk0 (fun i => code (col l ((c + f) % 3) a i)) a l).flatten)) rfl (x_asg rfl rfl hleft rfl)
      (sc_ret rfl (x_ret rfl ?_)))))))
    refine ev_bin (x := S (([40] ++ (UT mk0 (fun i => code (col l ((c + f) % 3) a i)) a l).flatten) ++ [41])) rfl rfl rfl (ev_bin (x := S ([40] ++ (UT mk0 (fun i => code (col l ((c + f) % 3) a i)) a l).flatten)) (y := S [41]) rfl rfl rfl (ev_bin (x := S [40]) rfl rfl rfl rfl rfl (add_S _ _ ?_)) rfl (add_S _ _ ?_)) hright (add_S _ _ ?_)
    · simp only [List.length_append, List.length_cons, List.length_nil]; omega
    · simp only [List.length_append, List.length_cons, List.length_nil]; omega
    · simp only [List.length_append, List.length_cons, List.length_nil]; omega
end Mine
end

section
open PySem PySem.W PyProof.Rows
set_option maxRecDepth 100000
set_option exponentiation.threshold 5000
set_option maxHeartbeats 4000000
namespace Mine
variable {K : Know} {n : Nat} {sc : Scope} {σ : Sig} {l l' : Fr2} {st : Stmt} {b rest : List Stmt} {r : Option (Fl × Fr2)} {d : D}

noncomputable def mixF (x y : Nat) : Nat := if y = (x + 1) % 3 then 1 else 2
noncomputable def foldT (g : Nat → Nat) : Nat → Tm → Option (Nat × Tm)
  | a, .lf => some (g a, .lf)
  | a, .nd _ l r => match foldT g a l, foldT g (a + l.size) r with
    | some (x, tl), some (y, tr) => if x = y then none else some (3 - x - y, .nd (mixF x y) tl tr)
    | _, _ => none
theorem foldT_lt {g : Nat → Nat} (hg : ∀ i, g i < 3) : ∀ (t : Tm) (a : Nat) (x : Nat) (t' : Tm), foldT g a t = some (x, t') → x < 3 ∧ t'.size = t.size ∧ t'.good
  | .lf, a, x, t', h => by simp only [foldT] at h; cases h; exact ⟨hg a, rfl, trivial⟩
  | .nd f l r, a, x, t', h => by
    simp only [foldT] at h
    split at h
    · rename_i x1 tl x2 tr h1 h2
      obtain ⟨q1, q2, q3⟩ := foldT_lt hg l _ _ _ h1
      obtain ⟨q4, q5, q6⟩ := foldT_lt hg r _ _ _ h2
      split at h
      · cases h
      · cases h
        refine ⟨by omega, by simp only [Tm.size, q2, q5], ?_, q3, q6⟩
        unfold mixF; split <;> simp
    · cases h
noncomputable def resC (o : Option (Nat × Tm)) : Nat := match o with | some p => p.1 | none => 3
noncomputable def resT (o : Option (Nat × Tm)) : List Nat := match o with | some p => (UT mk1 dot 0 p.2).flatten | none => []
noncomputable def resD (o : Option (Nat × Tm)) : D := .tup [colD (resC o), S (resT o)]
set_option tactic.hygienic false
theorem UT_dot (mk : Nat → List (List Nat)) : ∀ (t : Tm) (a b : Nat), UT mk dot a t = UT mk dot b t
  | .lf, a, b => rfl
  | .nd f l r, a, b => by simp only [UT]; rw [UT_dot mk l a b, UT_dot mk r (a + l.size) (b + l.size)]
set_option tactic.hygienic true
theorem resT_len {g : Nat → Nat} (hg : ∀ i, g i < 3) (t : Tm) (a : Nat) : (resT (foldT g a t)).length ≤ 8 * t.size := by
  unfold resT
  split
  · rename_i p h
    obtain ⟨x, t'⟩ := p
    obtain ⟨_, h2, _⟩ := foldT_lt hg t a x t' h
    have := UT_flat (g := dot) mk1_ok t' 0
    dsimp only
    omega
  · simp
set_option tactic.hygienic false
theorem fold_lf (m k : Nat) (hk : k < 3) : (KK (m + 1)).Φ "_law_fold" [.list [S [92, code k]]] = some (.tup [colD k, S [92, 46]]) := by
  match k, hk with
  | 0, _ => with_unfolding_all rfl
  | 1, _ => with_unfolding_all rfl
  | 2, _ => with_unfolding_all rfl
noncomputable def fd1 (U : D) : Fr2 := [("units", U)]
noncomputable def fd2 (U : D) (c : Int) : Fr2 := [("units", U), ("cut", .int c)]
noncomputable def fd3 (U : D) (c : Int) (a : Nat) (F : D) : Fr2 := [("units", U), ("cut", .int c), ("one", colD a), ("first", F)]
theorem dark_all (m : Nat) (U F G : D) (c : Int) (x y : Nat) (hx : x ≤ 3) (hy : y ≤ 3) (h : x = y ∨ x = 3 ∨ y = 3) : ∃ l, exsL (KK (m + 2)) 56 foldD.scope (fr4 U c x F y G) (foldD.body.drop 4) = some (.ret (.tup [colD 3, S []]), l) := by
  rcases (show x = 0 ∨ x = 1 ∨ x = 2 ∨ x = 3 by omega) with rfl | rfl | rfl | rfl <;> rcases (show y = 0 ∨ y = 1 ∨ y = 2 ∨ y = 3 by omega) with rfl | rfl | rfl | rfl
  · exact dark00 m U F G c
  · exact absurd h (by decide)
  · exact absurd h (by decide)
  · exact dark03 m U F G c
  · exact absurd h (by decide)
  · exact dark11 m U F G c
  · exact absurd h (by decide)
  · exact dark13 m U F G c
  · exact absurd h (by decide)
  · exact absurd h (by decide)
  · exact dark22 m U F G c
  · exact dark23 m U F G c
  · exact dark30 m U F G c
  · exact dark31 m U F G c
  · exact dark32 m U F G c
  · exact dark33 m U F G c
theorem lit_all (m : Nat) (U F G : D) (c : Int) (x y : Nat) (hx : x < 3) (hy : y < 3) (h : x ≠ y) : ∃ l, exsL (KK (m + 2)) 56 foldD.scope (fr4 U c x F y G) (foldD.body.drop 4) = exsL (KK (m + 2)) 49 foldD.scope l (foldD.body.drop 11) ∧
    Sg l "third" = some (colD (3 - x - y)) ∧ Sg l "mark" = some (S (mk1 (mixF x y)).flatten) ∧ Sg l "first" = some F ∧ Sg l "second" = some G := by
  match x, y, hx, hy, h with
  | 0, 1, _, _, _ => exact lit01 m U F G c
  | 0, 2, _, _, _ => exact lit02 m U F G c
  | 1, 0, _, _, _ => exact lit10 m U F G c
  | 1, 2, _, _, _ => exact lit12 m U F G c
  | 2, 0, _, _, _ => exact lit20 m U F G c
  | 2, 1, _, _, _ => exact lit21 m U F G c
  | 0, 0, _, _, h => exact absurd rfl h
  | 1, 1, _, _, h => exact absurd rfl h
  | 2, 2, _, _, h => exact absurd rfl h
theorem ev_name {e : Expr} {x : Str} {p : Pos} {d : D} (he : e = .Name x p) (hx : (x == "__debug__" || x == "__classdict__") = false) (h : σ x = some d) : ev K (n + 1) sc σ e = some d := by
  subst he
  show (if (x == "__debug__" || x == "__classdict__") = true then none else σ x) = _
  rw [hx, if_neg (by simp)]; exact h
theorem glF_some {e : Expr} {x : Str} {p : Pos} {d : D} (he : e = .Name x p) (h : σ x = some d) : glF K sc σ e = none := by
  subst he
  show (if ((σ x).isNone && isGlob sc x && !(x == "__debug__")) = true then K.gl x else none) = none
  rw [h]; rfl
theorem code_q (k : Nat) : code k ≠ 34 := by
  unfold code
  split
  · decide
  split
  · decide
  split
  · decide
  · decide
set_option tactic.hygienic true
theorem fold_run {g : Nat → Nat} (hg : ∀ i, g i < 3) : ∀ (t : Tm) (m a : Nat), t.size ≤ 100 → t.size ≤ m + 1 → (KK (m + 4)).Φ "_law_fold" [.list ((UT mk0 (fun i => code (g i)) a t).map S)] = some (resD (foldT g a t))
  | .lf, m, a, _, _ => fold_lf (m + 3) (g a) (hg a)
  | .nd f l r, m, a, hs, hm => by
    have pl := Tm.pos l
    have pr := Tm.pos r
    have hsz : (Tm.nd f l r).size = l.size + r.size := rfl
    obtain ⟨m, rfl⟩ : ∃ k, m = k + 1 := ⟨m - 1, by omega⟩
    have ihl := fold_run hg l m a (by omega) (by omega)
    have ihr := fold_run hg r m (a + l.size) (by omega) (by omega)
    have hcut := cut_tree (g := fun i => code (g i)) mk0_ok (fun i => code_q _) (m + 1) f a l r hs
    have hlen := UT_len (g := fun i => code (g i)) mk0_ok (.nd f l r) a
    generalize hU : UT mk0 (fun i => code (g i)) a (.nd f l r) = us at *
    have hU' : us = [40] :: (UT mk0 (fun i => code (g i)) a l ++ [41] :: UT mk0 (fun i => code (g i)) (a + l.size) r) := hU.symm
    have hB : (mk0 f ++ UT mk0 (fun i => code (g i)) a l).length = (UT mk0 (fun i => code (g i)) a l).length := rfl
    rw [hB] at hcut
    generalize hBB : (UT mk0 (fun i => code (g i)) a l).length = B at *
    have hBl : B + 2 ≤ us.length := by rw [hU']; simp only [List.length_cons, List.length_append, hBB]; omega
    have ht : tr (KK (m + 4)) 58 foldD.scope (Sg (fd1 (.list (us.map S)))) (sx (stAt foldD.body 0) 0) = some false := by
      refine tr_cmp rfl (by decide) (ev_slice rfl rfl rfl (bnd_nat 1 (by omega) rfl) (sl_to _ _)) (ev_list (ds := [S [40]]) rfl rfl (by simp)) ?_
      rw [hU']; rfl
    have h1 : ev (KK (m + 4)) 56 foldD.scope (Sg (fd2 (.list (us.map S)) (B + 2))) (sx (stAt foldD.body 2) 0) = some (resD (foldT g a l)) := by
      refine ev_call [.list ((UT mk0 (fun i => code (g i)) a l).map S)] rfl rfl rfl rfl (seq1 (ev_slice rfl rfl (bnd_nat 1 (by omega) rfl) (bnd_nat (B + 1) (by omega) (ev_bin (x := .int (B + 2)) (y := .int 1) rfl rfl rfl rfl rfl ?_)) ?_)) ihl
      · show some (D.int (_ + 2 - 1)) = _
        rw [show ((B : Int) + 2 - 1) = ((B + 1 : Nat) : Int) by omega]
      · rw [sl_mid _ _ _ (by rw [List.length_map]; omega)]
        rw [hU', ← List.map_drop, ← List.map_take]
        refine congrArg some (list_in ?_)
        rw [show B + 1 - 1 = (UT mk0 (fun i => code (g i)) a l).length by omega]
        simp
    have h2 : ev (KK (m + 4)) 55 foldD.scope (Sg (fd3 (.list (us.map S)) (B + 2) (resC (foldT g a l)) (S (resT (foldT g a l))))) (sx (stAt foldD.body 3) 0) = some (resD (foldT g (a + l.size) r)) := by
      refine ev_call [.list ((UT mk0 (fun i => code (g i)) (a + l.size) r).map S)] rfl rfl rfl rfl (seq1 (ev_slice rfl rfl (bnd_nat (B + 2) (by omega) rfl) rfl ?_)) ihr
      rw [sl_from, hU', ← List.map_drop]
      refine congrArg some (list_in ?_)
      rw [← hBB, drop_bd]
    have fl1 := resT_len hg l a
    have fl2 := resT_len hg r (a + l.size)
    have main : ∀ {v : D} {lz : Fr2}, exsL (KK (m + 4)) 56 foldD.scope (fr4 (.list (us.map S)) (B + 2) (resC (foldT g a l)) (S (resT (foldT g a l))) (resC (foldT g (a + l.size) r)) (S (resT (foldT g (a + l.size) r)))) (foldD.body.drop 4) = some (.ret v, lz) → (KK (m + 1 + 4)).Φ "_law_fold" [.list (us.map S)] = some v := fun h =>
      Phi_of (dr := foldD) rfl rfl (run_ret (l := fd1 (.list (us.map S))) rfl
      (sc_next (l' := fd1 (.list (us.map S))) rfl (x_iff rfl ht (sc_nil rfl))
      (sc_next (l' := fd2 (.list (us.map S)) (B + 2)) rfl (x_asg rfl rfl (ev_call [.list (us.map S)] rfl rfl rfl rfl (seq1 rfl) hcut) rfl)
      (sc_next (l' := fd3 (.list (us.map S)) (B + 2) (resC (foldT g a l)) (S (resT (foldT g a l)))) rfl (x_asg rfl rfl h1 rfl)
      (sc_next rfl (x_asg rfl rfl h2 rfl) h)))))
    by_cases hd : resC (foldT g a l) = resC (foldT g (a + l.size) r) ∨ resC (foldT g a l) = 3 ∨ resC (foldT g (a + l.size) r) = 3
    · have hle : ∀ (t : Tm) (a : Nat), resC (foldT g a t) ≤ 3 := fun t a => by
        cases h : foldT g a t with
        | none => exact Nat.le_refl _
        | some p => obtain ⟨x, t'⟩ := p; have := (foldT_lt hg t a x t' h).1; show x ≤ 3; omega
      obtain ⟨lz, h⟩ := dark_all (m + 2) (.list (us.map S)) (S (resT (foldT g a l))) (S (resT (foldT g (a + l.size) r))) (B + 2) _ _ (hle l a) (hle r (a + l.size)) hd
      rw [main h]
      have : foldT g a (.nd f l r) = none := by
        simp only [foldT]
        split
        · rename_i x tl y tr q1 q2
          rw [q1, q2] at hd
          have := (foldT_lt hg l a x tl q1).1
          have := (foldT_lt hg r _ y tr q2).1
          have hd : x = y ∨ x = 3 ∨ y = 3 := hd
          rw [if_pos (by omega)]
        · rfl
      rw [this]; rfl
    · simp only [not_or] at hd
      cases q1 : foldT g a l with
      | none => rw [q1] at hd; exact absurd rfl hd.2.1
      | some p1 =>
        cases q2 : foldT g (a + l.size) r with
        | none => rw [q2] at hd; exact absurd rfl hd.2.2
        | some p2 =>
          obtain ⟨x, tl⟩ := p1
          obtain ⟨y, tr⟩ := p2
          rw [q1, q2] at hd main
          rw [q1] at fl1
          rw [q2] at fl2
          have hxy : x ≠ y := hd.1
          obtain ⟨lz, h, e1, e2, e3, e4⟩ := lit_all (m + 2) (.list (us.map S)) (S (resT (some (x, tl)))) (S (resT (some (y, tr)))) (B + 2) x y (foldT_lt hg l a x tl q1).1 (foldT_lt hg r _ y tr q2).1 hxy
          have hres : foldT g a (.nd f l r) = some (3 - x - y, .nd (mixF x y) tl tr) := by
            simp only [foldT]; rw [q1, q2]; dsimp only; rw [if_neg hxy]
          have hT : resT (foldT g a (.nd f l r)) = ((([40] ++ (mk1 (mixF x y)).flatten) ++ resT (some (x, tl))) ++ [41]) ++ resT (some (y, tr)) := by
            rw [hres]
            simp only [resT, UT]
            rw [UT_dot mk1 tr (0 + tl.size) 0]
            simp
          have hmk : (mk1 (mixF x y)).flatten.length = 2 := by unfold mk1; split <;> rfl
          have hret : ev (KK (m + 4)) 47 foldD.scope (Sg lz) (sx (stAt foldD.body 11) 0) = some (.tup [colD (3 - x - y), S (((([40] ++ (mk1 (mixF x y)).flatten) ++ resT (some (x, tl))) ++ [41]) ++ resT (some (y, tr)))]) := by
            refine ev_tup rfl (seq2 (ev_name rfl rfl e1) ?_) (by simp)
            refine ev_bin rfl rfl (glF_some rfl e4) (ev_bin rfl rfl rfl (ev_bin rfl rfl (glF_some rfl e3) (ev_bin (x := S [40]) rfl rfl (glF_some rfl e2) rfl (ev_name rfl rfl e2) (add_S _ _ ?_)) (ev_name rfl rfl e3) (add_S _ _ ?_)) (y := S [41]) rfl (add_S _ _ ?_)) (ev_name rfl rfl e4) (add_S _ _ ?_)
            · simp only [List.length_append, List.length_cons, List.length_nil]; omega
            · simp only [List.length_append, List.length_cons, List.length_nil]; omega
            · simp only [List.length_append, List.length_cons, List.length_nil]; omega
            · simp only [List.length_append, List.length_cons, List.length_nil]; omega
          rw [main (h.trans (sc_ret rfl (x_ret rfl hret))), ← hT]
          unfold resD
          rw [hres]; rfl
end Mine
end

section
open PySem PySem.W PyProof.Rows
set_option maxRecDepth 100000
set_option maxHeartbeats 1000000
namespace Mine
variable {K : Know} {n : Nat} {sc : Scope} {σ σ' : Sig} {l l' : Fr2} {st : Stmt} {b rest : List Stmt} {r : Option (Fl × Fr2)} {d : D}

set_option tactic.hygienic false
theorem comp_one {f : Sig → Option (List D)} {tr : Sig → Expr → Option Bool} {t : Expr} {ifs : List Expr} {out : List D} (h1 : unset σ t = true) (h2 : bindT sc t d σ = some σ') (h3 : ifsT (tr σ') ifs = some true) (h4 : f σ' = some out) : compL f sc t tr ifs σ [d] = some out := by
  simp [compL, h1, h2, h3, h4]
theorem comp_skip {f : Sig → Option (List D)} {tr : Sig → Expr → Option Bool} {t : Expr} {ifs : List Expr} (h1 : unset σ t = true) (h2 : bindT sc t d σ = some σ') (h3 : ifsT (tr σ') ifs = some false) : compL f sc t tr ifs σ [d] = some [] := by
  simp [compL, h1, h2, h3]
theorem compL_flat {f : Sig → Option (List D)} {sc : Scope} {t : Expr} {tr : Sig → Expr → Option Bool} {ifs : List Expr} {σ : Sig} {α : Type} (enc : α → D) (g : α → List D) : ∀ (xs : List α), (∀ a ∈ xs, compL f sc t tr ifs σ [enc a] = some (g a)) →
    compL f sc t tr ifs σ (xs.map enc) = some (xs.flatMap g)
  | [], _ => rfl
  | x :: xs, h => by
    rw [List.map_cons, compL_cons, h x (by simp), compL_flat enc g xs fun a ha => h a (List.mem_cons_of_mem _ ha), List.flatMap_cons]
    rfl
theorem compG_nil {ev : Sig → Expr → Option D} {tr : Sig → Expr → Option Bool} {elt : Expr} (h : ev σ elt = some d) : compG K ev tr sc elt [] σ = some [d] := by
  simp [compG, h]
theorem compG_cons {ev : Sig → Expr → Option D} {tr : Sig → Expr → Option Bool} {elt t it : Expr} {ifs : List Expr} {gs : List Comprehension} {ds out : List D} (h : itE K (ev σ) sc it = some ds) (h2 : compL (compG K ev tr sc elt gs) sc t tr ifs σ ds = some out) : compG K ev tr sc elt (⟨t, it, ifs, 0⟩ :: gs) σ = some out := by
  simp [compG, h, h2]

theorem ifs1 {tr : Expr → Option Bool} {e : Expr} {b : Bool} (h : tr e = some b) : ifsT tr [e] = some b := by
  cases b <;> simp [ifsT, h]
noncomputable def iD (k : Nat) : D := .int (k : Int)
noncomputable def rowD (rs : List Nat) : D := .list (rs.map iD)
noncomputable def cnt (rs : List Nat) (k : Nat) : Nat := rs.countP (fun x => x == k)
theorem rng0 (k : Nat) : rngD 0 (k : Int) = (List.range k).map iD := by
  unfold rngD iD
  simp
theorem eqI (a b : Nat) : eqD (iD a) (iD b) = some (a == b) := by
  show some ((a : Int) == (b : Int)) = _
  congr 1
  rw [Bool.eq_iff_iff, beq_iff_eq, beq_iff_eq]; omega
theorem cnt_D (k : Nat) : ∀ rs : List Nat, cntD (iD k) (rs.map iD) = some (cnt rs k)
  | [] => rfl
  | x :: rs => by
    simp only [List.map_cons, cntD, eqI, cnt_D k rs, cnt, List.countP_cons]
    cases x == k <;> rfl
theorem count_D (k : Nat) (rs : List Nat) : methD (rowD rs) "count" [iD k] = some (iD (cnt rs k)) := by
  show (match cntD (iD k) (rs.map iD) with | some n => some (D.int (n : Int)) | none => none) = _
  rw [cnt_D]; rfl
theorem mod2 (a : Nat) : binD .Mod (iD a) (.int 2) = some (iD (a % 2)) := by
  show some (D.int ((a : Int).fmod 2)) = some (D.int ((a % 2 : Nat) : Int))
  rw [Int.fmod_eq_emod_of_nonneg _ (by omega)]
  congr 2
theorem div2 (a : Nat) : binD .FloorDiv (iD a) (.int 2) = some (iD (a / 2)) := by
  show some (D.int ((a : Int).fdiv 2)) = some (D.int ((a / 2 : Nat) : Int))
  rw [Int.fdiv_eq_ediv_of_nonneg _ (by omega)]
  congr 2
noncomputable def oddR (rs : List Nat) : List Nat := [cnt rs 0 % 2, cnt rs 1 % 2, cnt rs 2 % 2]
noncomputable def odD : DefRec := theD "_law_odd"
theorem odd_run (m : Nat) (rs : List Nat) : (KK (m + 1)).Φ "_law_odd" [rowD rs] = some (rowD (oddR rs)) := by
  refine Phi_of (dr := odD) rfl rfl (run_ret (l := ([("row", rowD rs)] : Fr2)) (l' := ([("row", rowD rs)] : Fr2)) rfl (sc_ret rfl (x_ret rfl (ev_comp ([0, 1, 2].map iD) rfl rfl rfl ?_ (by simp [oddR]; decide)))))
  refine compL_all iD (fun k => iD (cnt rs k % 2)) [0, 1, 2] fun k zz => comp_one rfl rfl rfl (compG_nil ?_)
  exact ev_bin (x := iD (cnt rs k)) (y := .int 2) rfl rfl rfl (ev_meth (x := rowD rs) (y := iD k) rfl rfl rfl rfl (count_D k rs)) rfl (mod2 _)

noncomputable def inv (rs : List Nat) : Nat := ((List.range rs.length).flatMap fun j => ((List.range j).filter fun i => decide (rs.getD j 0 < rs.getD i 0))).length
noncomputable def halves (rs : List Nat) : Nat := cnt rs 0 / 2 + (cnt rs 1 / 2 + cnt rs 2 / 2)
noncomputable def sgn (rs : List Nat) : Nat := (inv rs + halves rs + (if oddR rs = [1, 0, 1] then 1 else 0)) % 2
noncomputable def sgD : DefRec := theD "_law_sign"
theorem idx_row (rs : List Nat) (i : Nat) (h : i < rs.length) : idxD (rowD rs) (iD i) = some (iD (rs.getD i 0)) := by
  show (if (0 : Int) ≤ (i : Int) then (rs.map iD)[(i : Int).toNat]? else none) = _
  rw [if_pos (by omega), Int.toNat_natCast, List.getElem?_map, List.getElem?_eq_getElem h]
  simp [List.getD, List.getElem?_eq_getElem h]
noncomputable def f1 (R : D) (c : Int) : Fr2 := [("row", R), ("count", .int c)]
theorem sign_h1 (m : Nat) (rs : List Nat) (hl : rs.length ≤ 30) : ev (KK (m + 1)) 58 sgD.scope (Sg ([("row", rowD rs)] : Fr2)) (sx (stAt sgD.body 0) 0) = some (iD (inv rs)) := by
  have hinv : inv rs ≤ 1000 := by
    unfold inv
    rw [List.length_flatMap]
    have : ∀ (xs : List Nat), (∀ x ∈ xs, x < 30) → (xs.map fun j => ((List.range j).filter fun i => decide (rs.getD j 0 < rs.getD i 0)).length).sum ≤ 30 * xs.length := by
      intro xs
      induction xs with
      | nil => simp
      | cons x xs ih =>
        intro h
        have h1 := ih fun y hy => h y (List.mem_cons_of_mem _ hy)
        have h2 := h x (by simp)
        have h3 := List.length_filter_le (fun i => decide (rs.getD x 0 < rs.getD i 0)) (List.range x)
        rw [List.length_range] at h3
        simp only [List.map_cons, List.sum_cons, List.length_cons]
        omega
    have h := this (List.range rs.length) fun x hx => by have := List.mem_range.mp hx; omega
    rw [List.length_range] at h
    omega
  refine ev_blt [.list ((((List.range rs.length).flatMap fun j => ((List.range j).filter fun i => decide (rs.getD j 0 < rs.getD i 0)))).map fun zz => .int 0)] rfl rfl rfl rfl (seq1 (ev_comp ((List.range rs.length).map iD) rfl rfl ?_ ?_ ?_)) ?_
  · rw [← rng0]
    exact it_range1 (b := (rs.length : Int)) rfl rfl (ev_blt [rowD rs] rfl rfl rfl rfl (seq1 rfl) (by show some (D.int (_ : Nat)) = _; simp)) (small_nat _ (by omega))
  · rw [List.map_flatMap]
    refine compL_flat iD _ _ fun j hj => ?_
    have hj := List.mem_range.mp hj
    refine comp_one rfl rfl rfl (compG_cons (ds := (List.range j).map iD) ?_ ?_)
    · rw [← rng0]
      exact it_range1 (b := (j : Int)) rfl rfl rfl (small_nat _ (by omega))
    · refine compL_map iD (fun i => decide (rs.getD j 0 < rs.getD i 0)) (fun zz => .int 0) _ fun i hi => ?_
      have hi := List.mem_range.mp hi
      by_cases hp : rs.getD j 0 < rs.getD i 0
      · rw [if_pos (by simpa using hp)]
        refine comp_one rfl rfl ?_ (compG_nil rfl)
        refine ifs1 (tr_cmp rfl (by decide) (ev_sub (x := rowD rs) (y := iD i) rfl rfl rfl rfl (idx_row rs i (by omega))) (ev_sub (x := rowD rs) (y := iD j) rfl rfl rfl rfl (idx_row rs j hj)) ?_)
        show some (decide (((rs.getD i 0 : Nat) : Int) > ((rs.getD j 0 : Nat) : Int))) = _
        rw [decide_eq_true (by omega)]
      · rw [if_neg (by simpa using hp)]
        refine comp_skip rfl rfl ?_
        refine ifs1 (tr_cmp rfl (by decide) (ev_sub (x := rowD rs) (y := iD i) rfl rfl rfl rfl (idx_row rs i (by omega))) (ev_sub (x := rowD rs) (y := iD j) rfl rfl rfl rfl (idx_row rs j hj)) ?_)
        show some (decide (((rs.getD i 0 : Nat) : Int) > ((rs.getD j 0 : Nat) : Int))) = _
        rw [decide_eq_false (by omega)]
  · rw [List.length_map]
    exact Nat.le_trans hinv (by unfold big; omega)
  · show some (D.int (_ : Nat)) = _
    simp [inv, iD]
theorem halves_D (a b c : Nat) : bltD "sum" [.list [iD a, iD b, iD c]] = some (iD (a + (b + c))) := by
  show some (D.int ((a : Int) + ((b : Int) + ((c : Int) + 0)))) = some (D.int ((a + (b + c) : Nat) : Int))
  have : ((a : Int) + ((b : Int) + ((c : Int) + 0))) = ((a + (b + c) : Nat) : Int) := by omega
  rw [this]
theorem sign_h2 (m : Nat) (rs : List Nat) (c : Int) : ev (KK (m + 1)) 57 sgD.scope (Sg (f1 (rowD rs) c)) (sx (stAt sgD.body 1) 0) = some (iD (halves rs)) := by
  refine ev_blt [.list ([0, 1, 2].map fun k => iD (cnt rs k / 2))] rfl rfl rfl rfl (seq1 (ev_comp ([0, 1, 2].map iD) rfl rfl rfl ?_ (by simp; decide))) (halves_D _ _ _)
  refine compL_all iD (fun k => iD (cnt rs k / 2)) [0, 1, 2] fun k zz => comp_one rfl rfl rfl (compG_nil ?_)
  exact ev_bin (x := iD (cnt rs k)) (y := .int 2) rfl rfl rfl (ev_meth (x := rowD rs) (y := iD k) rfl rfl rfl rfl (count_D k rs)) rfl (div2 _)
theorem eq3 (x y z : Nat) : eqD (rowD [x, y, z]) (.list [.int 1, .int 0, .int 1]) = some (decide ([x, y, z] = [1, 0, 1])) := by
  have h3 : eqD (rowD [x, y, z]) (.list [.int 1, .int 0, .int 1]) = some (((x : Int) == 1) && (((y : Int) == 0) && (((z : Int) == 1) && true))) := rfl
  rw [h3]
  have : (((x : Int) == 1) && (((y : Int) == 0) && (((z : Int) == 1) && true))) = decide ([x, y, z] = [1, 0, 1]) := by
    rw [Bool.eq_iff_iff]
    simp
    omega
  rw [this]
theorem add_I (a b : Nat) : binD .Add (iD a) (iD b) = some (iD (a + b)) := by
  show some (D.int ((a : Int) + (b : Int))) = some (D.int ((a + b : Nat) : Int))
  rw [Int.natCast_add]
theorem sign_h4 (m : Nat) (rs : List Nat) (c : Nat) : ev (KK (m + 1)) 56 sgD.scope (Sg (f1 (rowD rs) (c : Int))) (sx (stAt sgD.body 2) 0) = some (iD ((c + (if oddR rs = [1, 0, 1] then 1 else 0)) % 2)) := by
  refine ev_bin (x := iD (c + (if oddR rs = [1, 0, 1] then 1 else 0))) (y := .int 2) rfl rfl rfl ?_ rfl (mod2 _)
  refine ev_bin (x := iD c) (y := iD (if oddR rs = [1, 0, 1] then 1 else 0)) rfl rfl rfl rfl ?_ (add_I _ _)
  refine ev_if (c := decide (oddR rs = [1, 0, 1])) rfl (tr_cmp (x := rowD (oddR rs)) (y := .list [.int 1, .int 0, .int 1]) rfl (by decide) (ev_call [rowD rs] rfl rfl rfl rfl (seq1 rfl) (odd_run m rs)) rfl (eq3 _ _ _)) ?_
  by_cases h : oddR rs = [1, 0, 1]
  · rw [decide_eq_true h, if_pos h]; rfl
  · rw [decide_eq_false h, if_neg h]; rfl
theorem sign_run (m : Nat) (rs : List Nat) (hl : rs.length ≤ 30) : (KK (m + 2)).Φ "_law_sign" [rowD rs] = some (iD (sgn rs)) := by
  have h4 := sign_h4 m rs (inv rs + halves rs)
  have h2 := sign_h2 m rs (inv rs)
  have h1 := sign_h1 m rs hl
  unfold sgn
  generalize inv rs = a at *
  generalize halves rs = b at *
  have x1 : exL (KK (m + 1)) 59 sgD.scope ([("row", rowD rs)] : Fr2) (stAt sgD.body 0) = some (.next, f1 (rowD rs) a) := x_asg rfl rfl h1 rfl
  have x2 : exL (KK (m + 1)) 58 sgD.scope (f1 (rowD rs) a) (stAt sgD.body 1) = some (.next, f1 (rowD rs) ((a + b : Nat) : Int)) := x_aug ((a + b : Nat) : Int) rfl rfl rfl h2 (.inl ⟨rfl, Int.natCast_add a b⟩)
  have x3 : exL (KK (m + 1)) 57 sgD.scope (f1 (rowD rs) ((a + b : Nat) : Int)) (stAt sgD.body 2) = some (.ret (iD ((a + b + (if oddR rs = [1, 0, 1] then 1 else 0)) % 2)), (f1 (rowD rs) ((a + b : Nat) : Int))) := x_ret rfl h4
  exact Phi_of (dr := sgD) rfl rfl (run_ret (l := ([("row", rowD rs)] : Fr2)) rfl (sc_next rfl x1 (sc_next rfl x2 (sc_ret rfl x3))))
end Mine
end

section
open PySem PySem.W PyProof.Rows
set_option maxRecDepth 100000
set_option maxHeartbeats 1000000
namespace Mine
variable {K : Know} {n : Nat} {sc : Scope} {σ σ' : Sig} {l l' : Fr2} {st : Stmt} {b rest : List Stmt} {r : Option (Fl × Fr2)} {d : D}

structure Nd where
  a : Nat
  m : Nat
  b : Nat
  f : Nat
noncomputable def nodeD (p : Nd) : D := .list [iD p.a, iD p.m, iD p.b, iD p.f]
noncomputable def kf (p : Nd) : Int × D := (-(p.b : Int), nodeD p)
noncomputable def insN (p : Nd) : List Nd → List Nd
  | [] => [p]
  | q :: r => if q.b ≤ p.b then p :: q :: r else q :: insN p r
noncomputable def srtN : List Nd → List Nd
  | [] => []
  | p :: r => insN p (srtN r)
set_option tactic.hygienic false
theorem ins_kf (p : Nd) : ∀ ns : List Nd, insK (kf p) (ns.map kf) = (insN p ns).map kf
  | [] => rfl
  | q :: r => by
    simp only [List.map_cons, insK, insN]
    by_cases h : q.b ≤ p.b
    · rw [if_pos (by simp only [kf]; omega), if_pos h]; rfl
    · rw [if_neg (by simp only [kf]; omega), if_neg h, ins_kf p r]; rfl
theorem srt_kf : ∀ ns : List Nd, srtK (ns.map kf) = (srtN ns).map kf
  | [] => rfl
  | p :: r => by simp only [List.map_cons, srtK, srtN, srt_kf r, ins_kf]
theorem keys_nodes : ∀ ns : List Nd, keysD (keyAt 2) (ns.map nodeD) = some (ns.map kf)
  | [] => rfl
  | p :: r => by
    have h : keyAt 2 (nodeD p) = some (-(p.b : Int)) := rfl
    simp only [List.map_cons, keysD, h, keys_nodes r, Option.map_some, kf]
theorem mem_insN {p x : Nd} : ∀ {ns : List Nd}, x ∈ insN p ns → x = p ∨ x ∈ ns
  | [], h => by simp [insN] at h; exact .inl h
  | q :: r, h => by
    simp only [insN] at h
    split at h
    · simpa using h
    · rcases List.mem_cons.mp h with h | h
      · exact .inr (by simp [h])
      · rcases mem_insN h with h | h
        · exact .inl h
        · exact .inr (List.mem_cons_of_mem _ h)
theorem mem_srtN {x : Nd} : ∀ {ns : List Nd}, x ∈ srtN ns → x ∈ ns
  | [], h => by simp [srtN] at h
  | q :: r, h => by
    rcases mem_insN h with h | h
    · simp [h]
    · exact List.mem_cons_of_mem _ (mem_srtN h)

theorem ev_sorted {e e1 : Expr} {p₁ p₃ p₄ p₅ p₆ p₇ p₈ p : Pos} {lsc : Scope} {lpos : Pos} {k : Nat} {xs : List D} {ks : List (Int × D)} (he : e = .Call (.Name "sorted" p₁) [e1] [⟨some "key", .Lambda ⟨[], [⟨"one", none, p₃⟩], none, [], [], none, []⟩ (.UnaryOp .USub (.Subscript (.Name "one" p₄) (.Constant (.int 2) k p₅) p₆) p₇) lsc lpos, p₈⟩] p)
    (hc : (isGlob sc "sorted" && decide (sc = K.lsc) && lamOk lsc "one" && decide ((lpos.line, lpos.col) = K.lpos)) = true) (h1 : ev K n sc σ e1 = some (.list xs)) (h2 : keysD (keyAt 2) xs = some ks) (h3 : (ks.map (·.1)).Nodup) (h4 : xs.length < 64) : ev K (n + 1) sc σ e = some (.list ((srtK ks).map (·.2))) := by
  subst he
  show (if ((("sorted" : Str) == "sorted") && (("key" : Str) == "key") && isGlob sc "sorted" && decide (sc = K.lsc) && (("one" : Str) == "one") && lamOk lsc "one" && decide ((lpos.line, lpos.col) = K.lpos)) = true then
          (ev K n sc σ e1).bind fun a => match a with
            | .list xs => (keysD (keyAt 2) xs).bind fun ks =>
                if (decide (ks.map (·.1)).Nodup && decide (xs.length < 64)) = true then some (D.list ((srtK ks).map (·.2))) else none
            | _ => none
        else none) = _
  simp only [Bool.and_eq_true] at hc
  rw [hc.1.1.1, hc.1.1.2, hc.1.2, hc.2, if_pos (by rfl), h1, Option.bind_some]
  dsimp only
  rw [h2, Option.bind_some, if_pos (by simp [h3, h4])]

noncomputable def lamLike (e : Expr) : Bool := match e with
  | .Call (.Name _ _) _ [] _ => true
  | _ => false
theorem it_val {f : Expr → Option D} {e : Expr} {xs : List D} (he : lamLike e = false) (h : f e = some (.list xs)) : itE K f sc e = some xs := by
  have : itE K f sc e = (f e).bind itemsD := by
    unfold itE
    split
    · cases he
    · rfl
  rw [this, h]; rfl
theorem x_augS {x : Str} {px p : Pos} {v : Expr} {a b : List Nat} (hst : st = .AugAssign (.Name x px) .Add v p) (hx : stOk sc x = true) (h1 : Sg l x = some (S a)) (h2 : ev K n sc (Sg l) v = some (S b)) (hl : (a ++ b).length ≤ 1000) :
    exL K (n + 1) sc l st = some (.next, ins x (S (a ++ b)) l) := by
  subst hst
  show (if !(stOk sc x) then none else (Sg l x).bind fun a => (ev K n sc (Sg l) v).bind fun b => match Operator.Add, a, b with
        | .Add, .int i, .int j => some (Fl.next, ins x (.int (i + j)) l)
        | .Sub, .int i, .int j => some (.next, ins x (.int (i - j)) l)
        | .Add, .str s, .str t => (strD (s ++ t)).map fun d => (.next, ins x d l)
        | _, _, _ => none) = _
  rw [if_neg (by rw [hx]; simp), h1, Option.bind_some, h2, Option.bind_some]
  show (strD ((⟨a.toArray⟩ : Str) ++ ⟨b.toArray⟩)).map _ = _
  rw [str_app, strD_S (by unfold big; omega)]; rfl

noncomputable def txD : DefRec := theD "_law_text"
noncomputable def txFor : Stmt := stAt txD.body 2
noncomputable def txFor2 : Stmt := stAt (forBody txFor) 0
noncomputable def bt0 (N L : D) (t : Int) (M : D) (T : List Nat) : Fr2 := [("nodes", N), ("letters", L), ("turns", .int t), ("marks", M), ("text", S T)]
noncomputable def bt1 (N L : D) (t : Int) (M : D) (T : List Nat) (i : Nat) : Fr2 := [("nodes", N), ("letters", L), ("turns", .int t), ("marks", M), ("text", S T), ("i", iD i)]
noncomputable def bt2 (N L : D) (t : Int) (M : D) (T : List Nat) (i : Nat) (x : D) : Fr2 := [("nodes", N), ("letters", L), ("turns", .int t), ("marks", M), ("text", S T), ("i", iD i), ("node", x)]
noncomputable def sh1 (N L : D) (t : Int) (M : D) (T : List Nat) (i : Nat) (l : Fr2) : Prop := l = bt1 N L t M T i ∨ ∃ x, l = bt2 N L t M T i x
noncomputable def sh0 (N L : D) (t : Int) (M : D) (T : List Nat) (l : Fr2) : Prop := l = bt0 N L t M T ∨ ∃ i, sh1 N L t M T i l
noncomputable def MD : D := .list [S [], S [92, 40], S [92, 41]]
structure TxOK (mk : Nat → List (List Nat)) (g : Nat → Nat) (L : D) (t : Int) (ns : List Nd) (k : Nat) : Prop where
  len : bltD "len" [L] = some (.int (k : Int))
  idx : ∀ i, i < k → idxD L (iD i) = some (S [g i])
  mark : ∀ p ∈ ns, ∃ x, binD .Mult (iD p.f) (.int t) = some x ∧ idxD MD x = some (S (mk p.f).flatten)
  few : ns.length < 64
  nodup : ∀ i, ((ns.filter fun p => p.a == i).map (·.b)).Nodup
  k : k ≤ 1000
noncomputable def opn1 (mk : Nat → List (List Nat)) (ps : List Nd) : List Nat := ps.flatMap fun p => 40 :: (mk p.f).flatten
noncomputable def seg (mk : Nat → List (List Nat)) (g : Nat → Nat) (ns : List Nd) (i : Nat) : List Nat := opn1 mk (srtN (ns.filter fun p => p.a == i)) ++ [92, g i, 41]

variable {mk : Nat → List (List Nat)} {g : Nat → Nat} {L N : D} {t : Int} {ns : List Nd} {k : Nat}
theorem tx_inner (X : TxOK mk g L t ns k) (i : Nat) : ∀ (ps : List Nd) (T : List Nat) (l : Fr2), (∀ p ∈ ps, p ∈ ns) → (T ++ opn1 mk ps).length ≤ 1000 → sh1 N L t MD T i l → ∃ l', sh1 N L t MD (T ++ opn1 mk ps) i l' ∧ loopDL txD.scope (fun l => exsL K 54 txD.scope l (forBody txFor2)) (forT txFor2) (ps.map nodeD) l = some (.next, l')
  | [], T, l, _, _, hl => ⟨l, by simpa [opn1] using hl, rfl⟩
  | p :: ps, T, l, hp, hlen, hl => by
    have hb : bindTL txD.scope (forT txFor2) (nodeD p) l = some (bt2 N L t MD T i (nodeD p)) := by
      rcases hl with rfl | ⟨x, rfl⟩ <;> rfl
    obtain ⟨x, h1, h2⟩ := X.mark p (hp p (by simp))
    have hlen' : ((T ++ ([40] ++ (mk p.f).flatten)) ++ opn1 mk ps).length ≤ 1000 := by simpa [opn1] using hlen
    have hlen2 : (T ++ ([40] ++ (mk p.f).flatten)).length ≤ 1000 := by rw [List.length_append] at hlen'; omega
    have hlen3 : ([40] ++ (mk p.f).flatten).length ≤ 1000 := by rw [List.length_append] at hlen2; omega
    have hs : exL K 53 txD.scope (bt2 N L t MD T i (nodeD p)) (stAt (forBody txFor2) 0) = some (.next, bt2 N L t MD (T ++ ([40] ++ (mk p.f).flatten)) i (nodeD p)) := by
      refine x_augS (a := T) (b := [40] ++ (mk p.f).flatten) rfl rfl rfl (ev_bin (x := S [40]) (y := S (mk p.f).flatten) rfl rfl rfl rfl (ev_sub (x := MD) (y := x) rfl rfl rfl (ev_bin (x := iD p.f) (y := .int t) rfl rfl rfl (ev_sub (x := nodeD p) (y := .int 3) rfl rfl rfl rfl rfl) rfl h1) h2) (add_S _ _ hlen3)) hlen2
    obtain ⟨l', q1, q2⟩ := tx_inner X i ps (T ++ ([40] ++ (mk p.f).flatten)) (bt2 N L t MD (T ++ ([40] ++ (mk p.f).flatten)) i (nodeD p)) (fun q hq => hp q (List.mem_cons_of_mem _ hq)) hlen' (.inr ⟨_, rfl⟩)
    refine ⟨l', by simpa [opn1] using q1, lp_next hb (sc_next rfl hs (sc_nil rfl)) q2⟩
theorem tx_list (X : TxOK mk g L t ns k) (hN : N = .list (ns.map nodeD)) (T : List Nat) (i : Nat) (l : Fr2) (m : Nat) (hl : sh1 N L t MD T i l) : itE (KK (m + 1)) (ev (KK (m + 1)) 54 txD.scope (Sg l)) txD.scope (sx txFor2 0) = some ((srtN (ns.filter fun p => p.a == i)).map nodeD) := by
  have hnd : ((ns.filter fun p => p.a == i).map kf |>.map (·.1)).Nodup := by
    have h := X.nodup i
    rw [List.map_map]
    generalize (ns.filter fun p => p.a == i) = qs at h
    induction qs with
    | nil => simp
    | cons q qs ih =>
      simp only [List.map_cons, List.nodup_cons, List.mem_map, Function.comp, kf] at h ⊢
      refine ⟨?_, ih h.2⟩
      rintro ⟨x, hx, e⟩
      exact h.1 ⟨x, hx, by omega⟩
  have hcomp : ev (KK (m + 1)) 53 txD.scope (Sg l) (kid (sx txFor2 0) 1) = some (.list ((ns.filter fun p => p.a == i).map nodeD)) := by
    subst hN
    have hlen : ((ns.filter fun p => p.a == i).map nodeD).length ≤ big := by
      rw [List.length_map]
      exact Nat.le_trans (List.length_filter_le _ _) (by have := X.few; unfold big; omega)
    have hcmp : ∀ p : Nd, cmpD .Eq (iD p.a) (iD i) = some (p.a == i) := fun p => eqI p.a i
    rcases hl with rfl | ⟨x, rfl⟩
    · refine ev_comp (ns.map nodeD) rfl rfl (it_val rfl rfl) (compL_map nodeD (fun p => p.a == i) nodeD ns fun p zz => ?_) hlen
      cases h : p.a == i
      · exact comp_skip rfl rfl (ifs1 (tr_cmp rfl (by decide) (ev_sub (x := nodeD p) (y := .int 0) rfl rfl rfl rfl rfl) rfl ((hcmp p).trans (by rw [h]))))
      · exact comp_one rfl rfl (ifs1 (tr_cmp rfl (by decide) (ev_sub (x := nodeD p) (y := .int 0) rfl rfl rfl rfl rfl) rfl ((hcmp p).trans (by rw [h])))) (compG_nil rfl)
    · refine ev_comp (ns.map nodeD) rfl rfl (it_val rfl rfl) (compL_map nodeD (fun p => p.a == i) nodeD ns fun p zz => ?_) hlen
      cases h : p.a == i
      · exact comp_skip rfl rfl (ifs1 (tr_cmp rfl (by decide) (ev_sub (x := nodeD p) (y := .int 0) rfl rfl rfl rfl rfl) rfl ((hcmp p).trans (by rw [h]))))
      · exact comp_one rfl rfl (ifs1 (tr_cmp rfl (by decide) (ev_sub (x := nodeD p) (y := .int 0) rfl rfl rfl rfl rfl) rfl ((hcmp p).trans (by rw [h])))) (compG_nil rfl)
  have hs := ev_sorted (e := sx txFor2 0) rfl rfl hcomp (keys_nodes _) hnd (by rw [List.length_map]; exact Nat.lt_of_le_of_lt (List.length_filter_le _ _) X.few)
  rw [srt_kf, List.map_map] at hs
  exact it_val rfl hs
theorem tx_outer (X : TxOK mk g L t ns k) (hN : N = .list (ns.map nodeD)) (m : Nat) : ∀ (is : List Nat) (T : List Nat) (l : Fr2), (∀ i ∈ is, i < k) → (T ++ is.flatMap (seg mk g ns)).length ≤ 1000 → sh0 N L t MD T l → ∃ l', sh0 N L t MD (T ++ is.flatMap (seg mk g ns)) l' ∧ loopDL txD.scope (fun l => exsL (KK (m + 1)) 56 txD.scope l (forBody txFor)) (forT txFor) (is.map iD) l = some (.next, l')
  | [], T, l, _, _, hl => ⟨l, by simpa using hl, rfl⟩
  | i :: is, T, l, hi, hlen, hl => by
    have hb : bindTL txD.scope (forT txFor) (iD i) l = some (bt1 N L t MD T i) ∨ ∃ x, bindTL txD.scope (forT txFor) (iD i) l = some (bt2 N L t MD T i x) := by
      rcases hl with rfl | ⟨j, rfl | ⟨x, rfl⟩⟩
      · exact .inl rfl
      · exact .inl rfl
      · exact .inr ⟨x, rfl⟩
    obtain ⟨l1, hb1, hs1⟩ : ∃ l1, bindTL txD.scope (forT txFor) (iD i) l = some l1 ∧ sh1 N L t MD T i l1 := by
      rcases hb with h | ⟨x, h⟩
      · exact ⟨_, h, .inl rfl⟩
      · exact ⟨_, h, .inr ⟨x, rfl⟩⟩
    have hlen1 : ((T ++ opn1 mk (srtN (ns.filter fun p => p.a == i))) ++ [92, g i, 41]).length ≤ 1000 := by
      rw [List.flatMap_cons] at hlen
      simp only [seg, List.length_append] at hlen ⊢; omega
    have hlen2 : (T ++ opn1 mk (srtN (ns.filter fun p => p.a == i))).length ≤ 1000 := by rw [List.length_append] at hlen1; omega
    obtain ⟨l2, hs2, hx2⟩ := tx_inner (K := KK (m + 1)) (N := N) X i (srtN (ns.filter fun p => p.a == i)) T l1 (fun p hp => (List.mem_filter.mp (mem_srtN hp)).1) hlen2 hs1
    have hfor : exL (KK (m + 1)) 55 txD.scope l1 txFor2 = some (.next, l2) := x_for rfl (tx_list X hN T i l1 m hs1) hx2
    have hidx := X.idx i (hi i (by simp))
    have haug : ∃ l3, exL (KK (m + 1)) 54 txD.scope l2 (stAt (forBody txFor) 1) = some (.next, l3) ∧ sh1 N L t MD ((T ++ opn1 mk (srtN (ns.filter fun p => p.a == i))) ++ [92, g i, 41]) i l3 := by
      rcases hs2 with rfl | ⟨x, rfl⟩
      · exact ⟨bt1 N L t MD ((T ++ opn1 mk (srtN (ns.filter fun p => p.a == i))) ++ [92, g i, 41]) i, x_augS (a := T ++ opn1 mk (srtN (ns.filter fun p => p.a == i))) (b := [92, g i, 41]) rfl rfl rfl (ev_bin (x := S [92, g i]) (y := S [41]) rfl rfl rfl (ev_bin (x := S [92]) (y := S [g i]) rfl rfl rfl rfl (ev_sub (x := L) (y := iD i) rfl rfl rfl rfl hidx) (add_S _ _ (by simp))) rfl (add_S _ _ (by simp))) hlen1, .inl rfl⟩
      · exact ⟨bt2 N L t MD ((T ++ opn1 mk (srtN (ns.filter fun p => p.a == i))) ++ [92, g i, 41]) i x, x_augS (a := T ++ opn1 mk (srtN (ns.filter fun p => p.a == i))) (b := [92, g i, 41]) rfl rfl rfl (ev_bin (x := S [92, g i]) (y := S [41]) rfl rfl rfl (ev_bin (x := S [92]) (y := S [g i]) rfl rfl rfl rfl (ev_sub (x := L) (y := iD i) rfl rfl rfl rfl hidx) (add_S _ _ (by simp))) rfl (add_S _ _ (by simp))) hlen1, .inr ⟨x, rfl⟩⟩
    obtain ⟨l3, hx3, hs3⟩ := haug
    have hT : ((T ++ opn1 mk (srtN (ns.filter fun p => p.a == i))) ++ [92, g i, 41]) = T ++ seg mk g ns i := by simp [seg]
    rw [hT] at hs3
    obtain ⟨l', q1, q2⟩ := tx_outer X hN m is (T ++ seg mk g ns i) l3 (fun j hj => hi j (List.mem_cons_of_mem _ hj)) (by simpa using hlen) (.inr ⟨i, hs3⟩)
    exact ⟨l', by simpa using q1, lp_next hb1 (sc_next rfl hfor (sc_next rfl hx3 (sc_nil rfl))) q2⟩
theorem text_run (X : TxOK mk g L t ns k) (m : Nat) (hlen : ((List.range k).flatMap (seg mk g ns)).length ≤ 1000) : (KK (m + 2)).Φ "_law_text" [.list (ns.map nodeD), L, .int t] = some (S ((List.range k).flatMap (seg mk g ns)).dropLast) := by
  obtain ⟨l', hs, hx⟩ := tx_outer (N := .list (ns.map nodeD)) X rfl m (List.range k) [] (bt0 (.list (ns.map nodeD)) L t MD []) (fun i hi => List.mem_range.mp hi) (by simpa using hlen) (.inl rfl)
  rw [List.nil_append] at hs
  generalize hT : (List.range k).flatMap (seg mk g ns) = T at *
  have hit : itE (KK (m + 1)) (ev (KK (m + 1)) 56 txD.scope (Sg (bt0 (.list (ns.map nodeD)) L t MD []))) txD.scope (sx txFor 0) = some ((List.range k).map iD) := by
    rw [← rng0]
    exact it_range1 (b := (k : Int)) rfl rfl (ev_blt [L] rfl rfl rfl rfl (seq1 rfl) X.len) (small_nat _ X.k)
  have hret : ev (KK (m + 1)) 55 txD.scope (Sg l') (sx (stAt txD.body 3) 0) = some (S T.dropLast) := by
    have key : sliceD (S T) none (some (-1)) = some (S T.dropLast) := by
      show some (D.str ⟨((⟨T.toArray⟩ : Str).cps.toList.take ((⟨T.toArray⟩ : Str).length - 1)).toArray⟩) = _
      rw [str_len, List.dropLast_eq_take]; rfl
    rcases hs with rfl | ⟨j, rfl | ⟨x, rfl⟩⟩ <;> exact ev_slice rfl rfl rfl rfl key
  have x0 : exL (KK (m + 1)) 59 txD.scope ([("nodes", .list (ns.map nodeD)), ("letters", L), ("turns", .int t)] : Fr2) (stAt txD.body 0) = some (.next, ([("nodes", .list (ns.map nodeD)), ("letters", L), ("turns", .int t), ("marks", MD)] : Fr2)) := x_asg rfl rfl rfl rfl
  have x1 : exL (KK (m + 1)) 58 txD.scope ([("nodes", .list (ns.map nodeD)), ("letters", L), ("turns", .int t), ("marks", MD)] : Fr2) (stAt txD.body 1) = some (.next, bt0 (.list (ns.map nodeD)) L t MD []) := x_asg rfl rfl rfl rfl
  have x2 : exL (KK (m + 1)) 57 txD.scope (bt0 (.list (ns.map nodeD)) L t MD []) txFor = some (.next, l') := x_for rfl hit hx
  have x3 : exL (KK (m + 1)) 56 txD.scope l' (stAt txD.body 3) = some (.ret (S T.dropLast), l') := x_ret rfl hret
  exact Phi_of (dr := txD) rfl rfl (run_ret (l := ([("nodes", .list (ns.map nodeD)), ("letters", L), ("turns", .int t)] : Fr2)) rfl (sc_next rfl x0 (sc_next rfl x1 (sc_next rfl x2 (sc_ret rfl x3)))))
end Mine
end

section
open PySem PySem.W PyProof.Rows
set_option maxRecDepth 100000
set_option maxHeartbeats 1000000
namespace Mine

noncomputable def NT : Nat → Tm → List Nd
  | _, .lf => []
  | a, .nd f l r => ⟨a, a + l.size, a + l.size + r.size, f⟩ :: (NT a l ++ NT (a + l.size) r)
set_option tactic.hygienic false
theorem NT_rng : ∀ (t : Tm) (a : Nat), ∀ p ∈ NT a t, a ≤ p.a ∧ p.a < p.m ∧ p.m < p.b ∧ p.b ≤ a + t.size
  | .lf, a, p, h => by simp [NT] at h
  | .nd f l r, a, p, h => by
    have hl := Tm.pos l
    have hr := Tm.pos r
    simp only [NT, List.mem_cons, List.mem_append] at h
    simp only [Tm.size]
    rcases h with rfl | h | h
    · refine ⟨Nat.le_refl _, ?_, ?_, ?_⟩ <;> simp only <;> omega
    · have := NT_rng l a p h; omega
    · have := NT_rng r _ p h; omega
theorem NT_good : ∀ (t : Tm) (a : Nat), t.good → ∀ p ∈ NT a t, p.f = 1 ∨ p.f = 2
  | .lf, a, _, p, h => by simp [NT] at h
  | .nd f l r, a, ⟨g1, g2, g3⟩, p, h => by
    simp only [NT, List.mem_cons, List.mem_append] at h
    rcases h with rfl | h | h
    · exact g1
    · exact NT_good l a g2 p h
    · exact NT_good r _ g3 p h
theorem NT_len : ∀ (t : Tm) (a : Nat), (NT a t).length + 1 = t.size
  | .lf, a => rfl
  | .nd f l r, a => by
    have h1 := NT_len l a
    have h2 := NT_len r (a + l.size)
    simp only [NT, List.length_cons, List.length_append, Tm.size]; omega
theorem filt_none {ns : List Nd} {i : Nat} (h : ∀ p ∈ ns, p.a ≠ i) : ns.filter (fun p => p.a == i) = [] := by
  rw [List.filter_eq_nil_iff]
  intro p hp; simpa using h p hp
noncomputable def Desc (ns : List Nd) : Prop := ns.Pairwise fun p q => q.b < p.b
theorem NT_filt (f a i : Nat) (l r : Tm) : (NT a (.nd f l r)).filter (fun p => p.a == i) = if i < a + l.size then (if a = i then [⟨a, a + l.size, a + l.size + r.size, f⟩] else []) ++ (NT a l).filter (fun p => p.a == i) else (NT (a + l.size) r).filter (fun p => p.a == i) := by
  have hl := Tm.pos l
  simp only [NT, List.filter_cons, List.filter_append]
  by_cases h : i < a + l.size
  · rw [if_pos h, filt_none (ns := NT (a + l.size) r) fun p hp => by have := NT_rng r _ p hp; omega, List.append_nil]
    by_cases h2 : a = i
    · simp [h2]
    · simp [h2]
  · rw [if_neg h, filt_none (ns := NT a l) fun p hp => by have := NT_rng l a p hp; omega, List.nil_append]
    rw [if_neg (by simp; omega)]
theorem NT_desc : ∀ (t : Tm) (a i : Nat), Desc ((NT a t).filter fun p => p.a == i)
  | .lf, a, i => by simp [NT, Desc]
  | .nd f l r, a, i => by
    have hr := Tm.pos r
    rw [NT_filt]
    split
    · split
      · refine List.Pairwise.cons (fun p hp => ?_) (NT_desc l a i)
        have := NT_rng l a p (List.mem_filter.mp hp).1
        simp only; omega
      · exact NT_desc l a i
    · exact NT_desc r _ i
theorem Desc.nodup {ns : List Nd} (h : Desc ns) : (ns.map (·.b)).Nodup := by
  unfold Desc at h
  rw [List.Nodup, List.pairwise_map]
  exact h.imp fun h => by omega
theorem ins_hd {p : Nd} {ns : List Nd} (h : ∀ q ∈ ns, q.b < p.b) : insN p ns = p :: ns := by
  cases ns with
  | nil => rfl
  | cons q r => simp only [insN]; rw [if_pos (by have := h q (by simp); omega)]
theorem Desc.srt : ∀ {ns : List Nd}, Desc ns → srtN ns = ns
  | [], _ => rfl
  | p :: ns, h => by
    obtain ⟨h1, h2⟩ := List.pairwise_cons.mp h
    simp only [srtN]
    rw [Desc.srt h2, ins_hd h1]
theorem ins_comm (p q : Nd) (h : p.b ≠ q.b) : ∀ ns : List Nd, insN p (insN q ns) = insN q (insN p ns)
  | [] => by
    simp only [insN]
    by_cases h1 : q.b ≤ p.b
    · rw [if_pos h1, if_neg (by omega)]
    · rw [if_neg h1, if_pos (by omega)]
  | x :: ns => by
    have ih := ins_comm p q h ns
    simp only [insN]
    by_cases h1 : x.b ≤ q.b <;> by_cases h2 : x.b ≤ p.b
    · rw [if_pos h1, if_pos h2]
      simp only [insN]
      by_cases h3 : q.b ≤ p.b
      · rw [if_pos h3, if_neg (by omega), if_pos h1]
      · rw [if_neg h3, if_pos h2, if_pos (show p.b ≤ q.b by omega)]
    · rw [if_pos h1, if_neg h2]
      simp only [insN]
      rw [if_neg (by omega), if_neg h2, if_pos h1]
    · rw [if_neg h1, if_pos h2]
      simp only [insN]
      rw [if_pos h2, if_neg (by omega), if_neg h1]
    · rw [if_neg h1, if_neg h2]
      simp only [insN]
      rw [if_neg h2, if_neg h1, ih]
theorem srtN_perm {ms ns : List Nd} (h : ms.Perm ns) : (ms.map (·.b)).Nodup → srtN ms = srtN ns := by
  induction h with
  | nil => intro _; rfl
  | cons p _ ih =>
    intro hn
    simp only [List.map_cons, List.nodup_cons] at hn
    simp only [srtN, ih hn.2]
  | swap p q l =>
    intro hn
    simp only [List.map_cons, List.nodup_cons, List.mem_cons, not_or] at hn
    simp only [srtN]
    exact ins_comm _ _ hn.1.1 _
  | trans h1 h2 ih1 ih2 =>
    intro hn
    rw [ih1 hn]
    exact ih2 ((h1.map _).nodup_iff.mp hn)

section
variable {mk : Nat → List (List Nat)} {g : Nat → Nat}
theorem NT_text : ∀ (t : Tm) (a : Nat), (List.range' a t.size).flatMap (fun i => opn1 mk ((NT a t).filter fun p => p.a == i) ++ [92, g i, 41]) = (UT mk g a t).flatten ++ [41]
  | .lf, a => by simp [Tm.size, NT, opn1, UT]
  | .nd f l r, a => by
    have hl := Tm.pos l
    have e1 : List.range' a (Tm.nd f l r).size = List.range' a l.size ++ List.range' (a + l.size) r.size := by
      simp only [Tm.size]; rw [← List.range'_append_1]
    rw [e1, List.flatMap_append]
    have h2 : (List.range' (a + l.size) r.size).flatMap (fun i => opn1 mk ((NT a (.nd f l r)).filter fun p => p.a == i) ++ [92, g i, 41]) = (UT mk g (a + l.size) r).flatten ++ [41] := by
      rw [← NT_text r (a + l.size)]
      rw [List.flatMap_def, List.flatMap_def]
      congr 1
      refine List.map_congr_left fun i hi => ?_
      rw [List.mem_range'_1] at hi
      rw [NT_filt, if_neg (by omega)]
    have h1 : (List.range' a l.size).flatMap (fun i => opn1 mk ((NT a (.nd f l r)).filter fun p => p.a == i) ++ [92, g i, 41]) = (40 :: (mk f).flatten) ++ ((UT mk g a l).flatten ++ [41]) := by
      rw [← NT_text l a]
      obtain ⟨k, hk⟩ : ∃ k, l.size = k + 1 := ⟨l.size - 1, by omega⟩
      have key : ∀ i, i < a + l.size → opn1 mk ((NT a (.nd f l r)).filter fun p => p.a == i) ++ [92, g i, 41] = (if a = i then 40 :: (mk f).flatten else []) ++ (opn1 mk ((NT a l).filter fun p => p.a == i) ++ [92, g i, 41]) := by
        intro i hi
        rw [NT_filt, if_pos hi]
        by_cases h : a = i
        · simp [h, opn1]
        · simp [h]
      rw [hk, List.range'_succ, List.flatMap_cons, List.flatMap_cons, key a (by omega), if_pos rfl, List.append_assoc]
      congr 2
      rw [List.flatMap_def, List.flatMap_def]
      congr 1
      refine List.map_congr_left fun i hi => ?_
      rw [List.mem_range'_1] at hi
      rw [key i (by omega), if_neg (by omega), List.nil_append]
    rw [h1, h2]
    simp [UT]
theorem text_of {t : Tm} {ns : List Nd} (h : ns.Perm (NT 0 t)) : ((List.range t.size).flatMap (seg mk g ns)) = (UT mk g 0 t).flatten ++ [41] := by
  rw [← NT_text t 0, List.range_eq_range', List.flatMap_def, List.flatMap_def]
  congr 1
  refine List.map_congr_left fun i zz => ?_
  unfold seg
  have hd := NT_desc t 0 i
  have hp : (ns.filter fun p => p.a == i).Perm ((NT 0 t).filter fun p => p.a == i) := h.filter _
  rw [srtN_perm hp ((hp.map _).nodup_iff.mpr hd.nodup), hd.srt]
theorem text_tree {t : Tm} {ns : List Nd} (h : ns.Perm (NT 0 t)) (hm : MkOK mk) (hs : t.size ≤ 60) {L : D} {tn : Int} (hlen : bltD "len" [L] = some (.int (t.size : Int))) (hidx : ∀ i, i < t.size → idxD L (iD i) = some (S [g i]))
    (hmark : ∀ p ∈ ns, ∃ x, binD .Mult (iD p.f) (.int tn) = some x ∧ idxD MD x = some (S (mk p.f).flatten)) (m : Nat) : (KK (m + 2)).Φ "_law_text" [.list (ns.map nodeD), L, .int tn] = some (S (UT mk g 0 t).flatten) := by
  have hl := NT_len t 0
  have X : TxOK mk g L tn ns t.size := ⟨hlen, hidx, hmark, by rw [h.length_eq]; omega, fun i => by
    have hp : (ns.filter fun p => p.a == i).Perm ((NT 0 t).filter fun p => p.a == i) := h.filter _
    exact (hp.map _).nodup_iff.mpr (NT_desc t 0 i).nodup, by omega⟩
  have hfl := UT_flat (g := g) hm t 0
  have := text_run X m (by rw [text_of h, List.length_append, List.length_singleton]; omega)
  rw [this, text_of h, List.dropLast_concat]
end
end Mine
end

section
open PySem PySem.W PyProof.Rows
set_option maxRecDepth 100000
set_option maxHeartbeats 1000000
namespace Mine

set_option tactic.hygienic false
theorem col_lt : ∀ (t : Tm) (c a i : Nat), c < 3 → col t c a i < 3
  | .lf, c, a, i, h => h
  | .nd f l r, c, a, i, h => by
    simp only [col]
    split
    · exact col_lt l _ _ _ (Nat.mod_lt _ (by omega))
    · exact col_lt r _ _ _ (Nat.mod_lt _ (by omega))
theorem foldT_congr {g g' : Nat → Nat} : ∀ (t : Tm) (a : Nat), (∀ i, a ≤ i → i < a + t.size → g i = g' i) → foldT g a t = foldT g' a t
  | .lf, a, h => by simp only [foldT]; rw [h a (Nat.le_refl _) (by simp [Tm.size])]
  | .nd f l r, a, h => by
    simp only [foldT]
    rw [foldT_congr l a fun i h1 h2 => h i h1 (by simp only [Tm.size]; omega), foldT_congr r (a + l.size) fun i h1 h2 => h i (by omega) (by simp only [Tm.size]; omega)]
theorem third_col (c f : Nat) (hc : c < 3) (hf : f = 1 ∨ f = 2) : (c + f) % 3 ≠ (c + 2 * f) % 3 ∧ 3 - (c + f) % 3 - (c + 2 * f) % 3 = c ∧ mixF ((c + f) % 3) ((c + 2 * f) % 3) = f := by
  have : c = 0 ∨ c = 1 ∨ c = 2 := by omega
  rcases this with rfl | rfl | rfl <;> rcases hf with rfl | rfl <;> decide
theorem fold_col : ∀ (t : Tm) (c a : Nat), t.good → c < 3 → foldT (col t c a) a t = some (c, t)
  | .lf, c, a, _, _ => rfl
  | .nd f l r, c, a, ⟨hf, gl, gr⟩, hc => by
    have h1 := fold_col l ((c + f) % 3) a gl (Nat.mod_lt _ (by omega))
    have h2 := fold_col r ((c + 2 * f) % 3) (a + l.size) gr (Nat.mod_lt _ (by omega))
    obtain ⟨q1, q2, q3⟩ := third_col c f hc hf
    simp only [foldT]
    rw [foldT_congr (g' := col l ((c + f) % 3) a) l a fun i h1 h2 => by simp only [col, if_pos h2],
      foldT_congr (g' := col r ((c + 2 * f) % 3) (a + l.size)) r (a + l.size) fun i h1 h2 => by simp only [col, if_neg (Nat.not_lt.mpr h1)], h1, h2]
    dsimp only
    rw [if_neg q1, q2, q3]
theorem mix_col (x y : Nat) (hx : x < 3) (hy : y < 3) (h : x ≠ y) : (3 - x - y + mixF x y) % 3 = x ∧ (3 - x - y + 2 * mixF x y) % 3 = y := by
  have h1 : x = 0 ∨ x = 1 ∨ x = 2 := by omega
  have h2 : y = 0 ∨ y = 1 ∨ y = 2 := by omega
  rcases h1 with rfl | rfl | rfl <;> rcases h2 with rfl | rfl | rfl <;> first | (exact absurd rfl h) | decide
set_option tactic.hygienic true
theorem col_fold {g : Nat → Nat} (hg : ∀ i, g i < 3) : ∀ (t : Tm) (a c : Nat) (t' : Tm), foldT g a t = some (c, t') → ∀ i, a ≤ i → i < a + t.size → col t' c a i = g i
  | .lf, a, c, t', h, i, h1, h2 => by
    simp only [foldT] at h; cases h
    have : i = a := by simp only [Tm.size] at h2; omega
    rw [this]; rfl
  | .nd f l r, a, c, t', h, i, h1, h2 => by
    simp only [foldT] at h
    split at h
    · rename_i x tl y tr q1 q2
      split at h
      · cases h
      · rename_i hxy
        cases h
        obtain ⟨lx, sx, _⟩ := foldT_lt hg l a x tl q1
        obtain ⟨ly, sy, _⟩ := foldT_lt hg r _ y tr q2
        obtain ⟨m1, m2⟩ := mix_col x y lx ly hxy
        simp only [Tm.size] at h2
        simp only [col, sx]
        split
        · rename_i hi
          rw [m1]; exact col_fold hg l a x tl q1 i h1 hi
        · rename_i hi
          rw [m2]; exact col_fold hg r _ y tr q2 i (by omega) (by omega)
    · cases h
theorem UT_fold {g : Nat → Nat} {h : Nat → Nat} (hg : ∀ i, g i < 3) : ∀ (t : Tm) (a c : Nat) (t' : Tm), foldT g a t = some (c, t') → UT mk0 h a t' = UT mk0 h a t
  | .lf, a, c, t', e => by simp only [foldT] at e; cases e; rfl
  | .nd f l r, a, c, t', e => by
    simp only [foldT] at e
    split at e
    · rename_i x tl y tr q1 q2
      split at e
      · cases e
      · cases e
        simp only [UT, (foldT_lt hg l a x tl q1).2.1, UT_fold hg l a x tl q1, UT_fold hg r _ y tr q2, mk0]
    · cases e

noncomputable def wgt (i : Nat) (p : Nd) : Nat := if i < p.m then p.f else 2 * p.f
noncomputable def wsum (ns : List Nd) (i : Nat) : Nat := ((ns.filter fun p => decide (p.a ≤ i ∧ i < p.b)).map (wgt i)).sum
set_option tactic.hygienic false
theorem wsum_app (xs ys : List Nd) (i : Nat) : wsum (xs ++ ys) i = wsum xs i + wsum ys i := by simp [wsum]
theorem wsum_zero {ns : List Nd} {i : Nat} (h : ∀ p ∈ ns, ¬ (p.a ≤ i ∧ i < p.b)) : wsum ns i = 0 := by
  unfold wsum
  rw [List.filter_eq_nil_iff.mpr (fun p hp => by simpa using h p hp)]; rfl
theorem wsum_perm {xs ys : List Nd} (h : xs.Perm ys) (i : Nat) : wsum xs i = wsum ys i := by
  unfold wsum
  exact ((h.filter _).map _).sum_nat
set_option tactic.hygienic true
theorem col_wsum : ∀ (t : Tm) (c a i : Nat), c < 3 → a ≤ i → i < a + t.size → col t c a i = (c + wsum (NT a t) i) % 3
  | .lf, c, a, i, hc, _, _ => by simp only [col, NT, wsum, List.filter_nil, List.map_nil, List.sum_nil]; omega
  | .nd f l r, c, a, i, hc, h1, h2 => by
    simp only [Tm.size] at h2
    have hroot : wsum [⟨a, a + l.size, a + l.size + r.size, f⟩] i = if i < a + l.size then f else 2 * f := by
      simp only [wsum, List.filter_cons, List.filter_nil]
      rw [if_pos (by simp; omega)]
      simp [wgt]
    have e : NT a (.nd f l r) = [⟨a, a + l.size, a + l.size + r.size, f⟩] ++ (NT a l ++ NT (a + l.size) r) := rfl
    rw [e, wsum_app, wsum_app, hroot]
    simp only [col]
    split
    · rename_i hi
      rw [wsum_zero (ns := NT (a + l.size) r) fun p hp q => by have := NT_rng r _ p hp; omega, col_wsum l _ a i (Nat.mod_lt _ (by omega)) h1 hi]
      omega
    · rename_i hi
      rw [wsum_zero (ns := NT a l) fun p hp q => by have := NT_rng l _ p hp; omega, col_wsum r _ _ i (Nat.mod_lt _ (by omega)) (by omega) (by omega)]
      omega

noncomputable def rowS (g : Nat → Nat) (a k : Nat) : List Nat := (List.range' a k).map g
noncomputable def triv (o : List Nat) : Prop := o = [0, 0, 0] ∨ o = [1, 1, 1]
noncomputable def unitP (c : Nat) (o : List Nat) : Prop := (c = 0 ∧ (o = [1, 0, 0] ∨ o = [0, 1, 1])) ∨ (c = 1 ∧ (o = [0, 1, 0] ∨ o = [1, 0, 1])) ∨ (c = 2 ∧ (o = [0, 0, 1] ∨ o = [1, 1, 0]))
set_option tactic.hygienic false
theorem cnt_app (xs ys : List Nat) (k : Nat) : cnt (xs ++ ys) k = cnt xs k + cnt ys k := by simp [cnt]
theorem rowS_app (g : Nat → Nat) (a k j : Nat) : rowS g a (k + j) = rowS g a k ++ rowS g (a + k) j := by
  unfold rowS
  rw [← List.range'_append_1, List.map_append]
theorem odd_app (xs ys : List Nat) : oddR (xs ++ ys) = [((oddR xs).getD 0 0 + (oddR ys).getD 0 0) % 2, ((oddR xs).getD 1 0 + (oddR ys).getD 1 0) % 2, ((oddR xs).getD 2 0 + (oddR ys).getD 2 0) % 2] := by
  simp [oddR, cnt_app]
theorem unit_same {x : Nat} {o p : List Nat} (h1 : unitP x o) (h2 : unitP x p) : triv [(o.getD 0 0 + p.getD 0 0) % 2, (o.getD 1 0 + p.getD 1 0) % 2, (o.getD 2 0 + p.getD 2 0) % 2] := by
  unfold triv
  rcases h1 with ⟨rfl, h1⟩ | ⟨rfl, h1⟩ | ⟨rfl, h1⟩ <;> rcases h2 with ⟨q, h2⟩ | ⟨q, h2⟩ | ⟨q, h2⟩ <;> first | (exfalso; omega) | (rcases h1 with rfl | rfl <;> rcases h2 with rfl | rfl <;> decide)
theorem unit_diff {x y : Nat} {o p : List Nat} (h1 : unitP x o) (h2 : unitP y p) (h : x ≠ y) : unitP (3 - x - y) [(o.getD 0 0 + p.getD 0 0) % 2, (o.getD 1 0 + p.getD 1 0) % 2, (o.getD 2 0 + p.getD 2 0) % 2] := by
  unfold unitP
  rcases h1 with ⟨rfl, h1⟩ | ⟨rfl, h1⟩ | ⟨rfl, h1⟩ <;> rcases h2 with ⟨rfl, h2⟩ | ⟨rfl, h2⟩ | ⟨rfl, h2⟩ <;> first | (exact absurd rfl h) | (rcases h1 with rfl | rfl <;> rcases h2 with rfl | rfl <;> decide)
theorem unit_not {c : Nat} {o : List Nat} (h : unitP c o) : ¬ triv o := by
  unfold triv
  rcases h with ⟨rfl, h⟩ | ⟨rfl, h⟩ | ⟨rfl, h⟩ <;> rcases h with rfl | rfl <;> decide
noncomputable def dead (g : Nat → Nat) (ns : List Nd) : Prop := ∃ p ∈ ns, triv (oddR (rowS g p.a (p.b - p.a)))
theorem fold_par {g : Nat → Nat} (hg : ∀ i, g i < 3) : ∀ (t : Tm) (a : Nat), (∃ c t', foldT g a t = some (c, t') ∧ unitP c (oddR (rowS g a t.size)) ∧ ¬ dead g (NT a t)) ∨ (foldT g a t = none ∧ dead g (NT a t))
  | .lf, a => by
    refine .inl ⟨g a, .lf, rfl, ?_, by simp [dead, NT]⟩
    have h : g a = 0 ∨ g a = 1 ∨ g a = 2 := by have := hg a; omega
    have e : rowS g a Tm.lf.size = [g a] := rfl
    rw [e]
    rcases h with h | h | h <;> rw [h] <;> unfold unitP <;> decide
  | .nd f l r, a => by
    have hsz : rowS g a (Tm.nd f l r).size = rowS g a l.size ++ rowS g (a + l.size) r.size := rowS_app g a l.size r.size
    rcases fold_par hg l a with ⟨x, tl, q1, u1, d1⟩ | ⟨q1, d1⟩
    · rcases fold_par hg r (a + l.size) with ⟨y, tr, q2, u2, d2⟩ | ⟨q2, d2⟩
      · by_cases h : x = y
        · subst h
          refine .inr ⟨by simp only [foldT, q1, q2, if_true], ⟨_, List.mem_cons_self .., ?_⟩⟩
          dsimp only
          have e : a + l.size + r.size - a = l.size + r.size := by omega
          rw [e, rowS_app, odd_app]
          exact unit_same u1 u2
        · refine .inl ⟨3 - x - y, .nd (mixF x y) tl tr, by simp only [foldT, q1, q2, if_neg h], ?_, ?_⟩
          · rw [hsz, odd_app]; exact unit_diff u1 u2 h
          · rintro ⟨p, hp, ht⟩
            simp only [NT, List.mem_cons, List.mem_append] at hp
            rcases hp with rfl | hp | hp
            · dsimp only at ht
              have e : a + l.size + r.size - a = l.size + r.size := by omega
              rw [e, rowS_app, odd_app] at ht
              exact unit_not (unit_diff u1 u2 h) ht
            · exact d1 ⟨p, hp, ht⟩
            · exact d2 ⟨p, hp, ht⟩
      · refine .inr ⟨by simp only [foldT, q1, q2], ?_⟩
        obtain ⟨p, hp, ht⟩ := d2
        exact ⟨p, by simp [NT, hp], ht⟩
    · refine .inr ⟨by simp only [foldT, q1], ?_⟩
      obtain ⟨p, hp, ht⟩ := d1
      exact ⟨p, by simp [NT, hp], ht⟩
end Mine
end

section
open PySem PySem.W PyProof.Rows
set_option maxRecDepth 100000
set_option maxHeartbeats 1000000
namespace Mine

set_option tactic.hygienic false
theorem inv_snoc (rs : List Nat) (x : Nat) : inv (rs ++ [x]) = inv rs + rs.countP (fun y => decide (x < y)) := by
  unfold inv
  rw [List.length_append, List.length_singleton, List.range_succ, List.flatMap_append, List.length_append]
  congr 1
  · congr 1
    rw [List.flatMap_def, List.flatMap_def]
    congr 1
    refine List.map_congr_left fun j hj => ?_
    have hj := List.mem_range.mp hj
    refine List.filter_congr fun i hi => ?_
    have hi := List.mem_range.mp hi
    have e1 : (rs ++ [x]).getD j 0 = rs.getD j 0 := by simp [List.getD, List.getElem?_append_left hj]
    have e2 : (rs ++ [x]).getD i 0 = rs.getD i 0 := by simp [List.getD, List.getElem?_append_left (show i < rs.length by omega)]
    rw [e1, e2]
  · rw [List.flatMap_cons, List.flatMap_nil, List.append_nil]
    have e1 : (rs ++ [x]).getD rs.length 0 = x := by simp [List.getD]
    rw [e1, ← List.countP_eq_length_filter]
    have : rs = (List.range rs.length).map fun i => (rs ++ [x]).getD i 0 := by
      apply List.ext_getElem
      · simp
      · intro i h1 h2
        simp [List.getD, List.getElem?_append_left h1, List.getElem?_eq_getElem h1]
    conv => rhs; rw [this]
    rw [List.countP_map]
    rfl
theorem snoc_ind {P : List Nat → Prop} (h0 : P []) (h1 : ∀ xs x, P xs → P (xs ++ [x])) (xs : List Nat) : P xs := by
  have : ∀ ys : List Nat, P ys.reverse := by
    intro ys
    induction ys with
    | nil => exact h0
    | cons y ys ih => rw [List.reverse_cons]; exact h1 _ _ ih
  have := this xs.reverse
  rwa [List.reverse_reverse] at this
theorem gt_cnt (xs : List Nat) (h : ∀ x ∈ xs, x < 3) (x : Nat) : xs.countP (fun y => decide (x < y)) = (if x < 1 then cnt xs 1 else 0) + (if x < 2 then cnt xs 2 else 0) := by
  induction xs with
  | nil => simp [cnt]
  | cons y xs ih =>
    have hy := h y (by simp)
    have ih := ih fun z hz => h z (List.mem_cons_of_mem _ hz)
    rw [List.countP_cons, ih]
    simp only [cnt, List.countP_cons]
    have : y = 0 ∨ y = 1 ∨ y = 2 := by omega
    rcases this with rfl | rfl | rfl <;> simp <;> split <;> split <;> omega
theorem inv_app (xs : List Nat) (hx : ∀ x ∈ xs, x < 3) (ys : List Nat) : (∀ y ∈ ys, y < 3) → inv (xs ++ ys) = inv xs + inv ys + cnt xs 1 * cnt ys 0 + cnt xs 2 * (cnt ys 0 + cnt ys 1) := by
  induction ys using snoc_ind with
  | h0 => intro _; simp [inv, cnt]
  | h1 ys y ih =>
    intro hy
    have hy1 := hy y (by simp)
    have ih := ih fun z hz => hy z (List.mem_append_left _ hz)
    rw [← List.append_assoc, inv_snoc, inv_snoc, ih, List.countP_append, gt_cnt xs hx]
    rw [cnt_app, cnt_app]
    have : y = 0 ∨ y = 1 ∨ y = 2 := by omega
    rcases this with rfl | rfl | rfl
    · have e0 : cnt [0] 0 = 1 := rfl
      have e1 : cnt [0] 1 = 0 := rfl
      rw [e0, e1]
      simp only [Nat.mul_add, Nat.mul_one]
      simp
      omega
    · have e0 : cnt [1] 0 = 0 := rfl
      have e1 : cnt [1] 1 = 1 := rfl
      rw [e0, e1]
      simp only [Nat.mul_add, Nat.mul_one]
      simp
      omega
    · have e0 : cnt [2] 0 = 0 := rfl
      have e1 : cnt [2] 1 = 0 := rfl
      rw [e0, e1]
      simp
      omega
noncomputable def cnt2 : Tm → Nat
  | .lf => 0
  | .nd f l r => (if f = 1 then 0 else 1) + (cnt2 l + cnt2 r)
noncomputable def corr (o : List Nat) : Nat := if o = [1, 0, 1] then 1 else 0
theorem mul_par (x y : Nat) : (x * y) % 2 = (x % 2) * (y % 2) := by
  rw [Nat.mul_mod]
  have h1 : x % 2 = 0 ∨ x % 2 = 1 := by omega
  have h2 : y % 2 = 0 ∨ y % 2 = 1 := by omega
  rcases h1 with h1 | h1 <;> rcases h2 with h2 | h2 <;> rw [h1, h2]
theorem half_add (x y : Nat) : (x + y) / 2 = x / 2 + y / 2 + (x % 2) * (y % 2) := by
  have h1 : x % 2 = 0 ∨ x % 2 = 1 := by omega
  have h2 : y % 2 = 0 ∨ y % 2 = 1 := by omega
  rcases h1 with h1 | h1 <;> rcases h2 with h2 | h2 <;> rw [h1, h2] <;> omega
noncomputable def crs (o p : List Nat) : Nat := o.getD 1 0 * p.getD 0 0 + o.getD 2 0 * p.getD 0 0 + o.getD 2 0 * p.getD 1 0 + o.getD 0 0 * p.getD 0 0 + o.getD 1 0 * p.getD 1 0 + o.getD 2 0 * p.getD 2 0
noncomputable def sumP (o p : List Nat) : List Nat := [(o.getD 0 0 + p.getD 0 0) % 2, (o.getD 1 0 + p.getD 1 0) % 2, (o.getD 2 0 + p.getD 2 0) % 2]
theorem sgn_app (xs ys : List Nat) (hx : ∀ x ∈ xs, x < 3) (hy : ∀ y ∈ ys, y < 3) :
    (sgn (xs ++ ys) + sgn xs + sgn ys + (crs (oddR xs) (oddR ys) + corr (sumP (oddR xs) (oddR ys)) + corr (oddR xs) + corr (oddR ys))) % 2 = 0 := by
  have hab : oddR (xs ++ ys) = sumP (oddR xs) (oddR ys) := odd_app xs ys
  have p1 := mul_par (cnt xs 1) (cnt ys 0)
  have p2 := mul_par (cnt xs 2) (cnt ys 0)
  have p3 := mul_par (cnt xs 2) (cnt ys 1)
  have e : crs (oddR xs) (oddR ys) = (cnt xs 1 % 2) * (cnt ys 0 % 2) + (cnt xs 2 % 2) * (cnt ys 0 % 2) + (cnt xs 2 % 2) * (cnt ys 1 % 2) + (cnt xs 0 % 2) * (cnt ys 0 % 2) + (cnt xs 1 % 2) * (cnt ys 1 % 2) + (cnt xs 2 % 2) * (cnt ys 2 % 2) := rfl
  unfold sgn
  rw [hab, inv_app xs hx ys hy, e]
  simp only [halves, cnt_app, half_add, Nat.mul_add]
  show (_ + _ + (_ + corr _ + corr _ + corr _)) % 2 = 0
  have c1 : (if sumP (oddR xs) (oddR ys) = [1, 0, 1] then 1 else 0) = corr (sumP (oddR xs) (oddR ys)) := rfl
  have c2 : (if oddR xs = [1, 0, 1] then 1 else 0) = corr (oddR xs) := rfl
  have c3 : (if oddR ys = [1, 0, 1] then 1 else 0) = corr (oddR ys) := rfl
  rw [c1, c2, c3]
  generalize cnt xs 1 * cnt ys 0 = q1 at *
  generalize cnt xs 2 * cnt ys 0 = q2 at *
  generalize cnt xs 2 * cnt ys 1 = q3 at *
  rw [← p1, ← p2, ← p3]
  generalize cnt xs 0 % 2 * (cnt ys 0 % 2) = r4
  generalize cnt xs 1 % 2 * (cnt ys 1 % 2) = r5
  generalize cnt xs 2 % 2 * (cnt ys 2 % 2) = r6
  generalize corr (sumP (oddR xs) (oddR ys)) = k1
  generalize corr (oddR xs) = k2
  generalize corr (oddR ys) = k3
  omega
theorem crs_unit {x y : Nat} {o p : List Nat} (h1 : unitP x o) (h2 : unitP y p) (h : x ≠ y) : (crs o p + corr (sumP o p) + corr o + corr p) % 2 = if mixF x y = 1 then 0 else 1 := by
  rcases h1 with ⟨rfl, h1⟩ | ⟨rfl, h1⟩ | ⟨rfl, h1⟩ <;> rcases h2 with ⟨rfl, h2⟩ | ⟨rfl, h2⟩ | ⟨rfl, h2⟩ <;> first | (exact absurd rfl h) | (rcases h1 with rfl | rfl <;> rcases h2 with rfl | rfl <;> rfl)
theorem sgn_lt (rs : List Nat) : sgn rs < 2 := Nat.mod_lt _ (by decide)
theorem sign_sum {a b ab m l r : Nat} (h1 : (ab + a + b + m) % 2 = 0) (h2 : l % 2 = a) (h3 : r % 2 = b) (h4 : ab < 2) {q : Nat} (hq : m % 2 = q) : (q + (l + r)) % 2 = ab := by omega
set_option tactic.hygienic true
theorem fold_sign {g : Nat → Nat} (hg : ∀ i, g i < 3) : ∀ (t : Tm) (a c : Nat) (t' : Tm), foldT g a t = some (c, t') → cnt2 t' % 2 = sgn (rowS g a t.size)
  | .lf, a, c, t', h => by
    simp only [foldT] at h; cases h
    have h : g a = 0 ∨ g a = 1 ∨ g a = 2 := by have := hg a; omega
    have e : rowS g a Tm.lf.size = [g a] := rfl
    rw [e]
    rcases h with h | h | h <;> rw [h] <;> rfl
  | .nd f l r, a, c, t', h => by
    have hsz : rowS g a (Tm.nd f l r).size = rowS g a l.size ++ rowS g (a + l.size) r.size := rowS_app g a l.size r.size
    rw [hsz]
    have hlt : ∀ a k, ∀ x ∈ rowS g a k, x < 3 := fun a k x hx => by
      obtain ⟨i, _, rfl⟩ := List.mem_map.mp hx
      exact hg i
    rcases fold_par hg l a with ⟨x, tl, q1, u1, d1⟩ | ⟨q1, d1⟩
    · rcases fold_par hg r (a + l.size) with ⟨y, tr, q2, u2, d2⟩ | ⟨q2, d2⟩
      · simp only [foldT, q1, q2] at h
        split at h
        · cases h
        · rename_i hxy
          cases h
          exact sign_sum (sgn_app _ _ (hlt a l.size) (hlt (a + l.size) r.size)) (fold_sign hg l a x tl q1) (fold_sign hg r _ y tr q2) (sgn_lt _) (crs_unit u1 u2 hxy)
      · simp only [foldT, q1, q2] at h; cases h
    · simp only [foldT, q1] at h; cases h
end Mine
end

section
open PySem PySem.W PyProof.Rows
set_option maxRecDepth 100000
set_option maxHeartbeats 1000000
namespace Mine

noncomputable def c2 : List Nat → Nat
  | [] => 0
  | x :: r => (if x = 92 ∧ r.head? = some 41 then 1 else 0) + c2 r
set_option tactic.hygienic false
theorem at_iff (T : List Nat) (k : Nat) : StrLaws.At ⟨T.toArray⟩ ⟨#[92, 41]⟩ (⟨T.toArray⟩ : Str).length k ↔ (T.drop k).take 2 = [92, 41] := by
  unfold StrLaws.At
  rw [StrLaws.subAt_eq, str_len]
  show (k + 2 ≤ T.length ∧ ((T.drop k).take 2 == [92, 41]) = true) ↔ _
  rw [beq_iff_eq]
  constructor
  · exact fun h => h.2
  · intro h
    refine ⟨?_, h⟩
    have := congrArg List.length h
    simp at this
    omega
theorem c2_take (l : List Nat) : c2 l = (if l.take 2 = [92, 41] then 1 else 0) + c2 (l.drop 1) := by
  match l with
  | [] => rfl
  | [x] => simp [c2]
  | x :: y :: r =>
    simp only [c2, List.head?_cons, Option.some.injEq, List.take_succ_cons, List.take_zero, List.drop_succ_cons, List.drop_zero, List.cons.injEq, and_true]
theorem c2_skip (T : List Nat) (a : Nat) : ∀ (j : Nat), (∀ k, a ≤ k → k < a + j → ¬ ((T.drop k).take 2 = [92, 41])) → c2 (T.drop a) = c2 (T.drop (a + j))
  | 0, _ => rfl
  | j + 1, h => by
    rw [c2_skip T a j fun k h1 h2 => h k h1 (by omega), c2_take (T.drop (a + j)), if_neg (h (a + j) (by omega) (by omega)), List.drop_drop, Nat.zero_add, Nat.add_assoc]
theorem c2_none (T : List Nat) (a : Nat) (h : ∀ k, a ≤ k → ¬ ((T.drop k).take 2 = [92, 41])) : c2 (T.drop a) = 0 := by
  rw [c2_skip T a T.length fun k h1 zz => h k h1, List.drop_of_length_le (by omega)]; rfl
theorem c2_chain (T : List Nat) : ∀ (cuts : List Nat) (a f : Nat), StrLaws.ChainG ⟨T.toArray⟩ ⟨#[92, 41]⟩ (⟨T.toArray⟩ : Str).length a cuts f → (∀ k, f ≤ k → ¬ StrLaws.At ⟨T.toArray⟩ ⟨#[92, 41]⟩ (⟨T.toArray⟩ : Str).length k) → c2 (T.drop a) = cuts.length
  | [], a, f, h, hn => by
    have e : f = a := h
    subst e
    exact c2_none T f fun k hk q => hn k hk ((at_iff T k).mpr q)
  | d :: r, a, f, h, hn => by
    obtain ⟨had, hAt, hgap, hrest⟩ := h
    have ih := c2_chain T r _ f hrest hn
    have hd := (at_iff T d).mp hAt
    have e0 := c2_skip T a (d - a) fun k h1 h2 q => hgap k h1 (by omega) ((at_iff T k).mpr q)
    rw [show a + (d - a) = d by omega] at e0
    have hw : (⟨#[92, 41]⟩ : Str).length = 2 := rfl
    rw [hw] at ih
    have e1 : c2 (T.drop (d + 1)) = c2 (T.drop (d + 1 + 1)) := by
      rw [c2_take (T.drop (d + 1)), List.drop_drop, if_neg, Nat.zero_add]
      intro q
      have h1 : (T.drop d)[1]? = some 41 := by
        have : ((T.drop d).take 2)[1]? = some 41 := by rw [hd]; rfl
        rwa [List.getElem?_take_of_lt (by omega)] at this
      have h2 : (T.drop (d + 1))[0]? = some 92 := by
        have : ((T.drop (d + 1)).take 2)[0]? = some 92 := by rw [q]; rfl
        rwa [List.getElem?_take_of_lt (by omega)] at this
      rw [List.getElem?_drop] at h1 h2
      rw [show d + 1 + 0 = d + 1 by omega, h1] at h2
      cases h2
    rw [e0, c2_take (T.drop d), if_pos hd, List.drop_drop, e1, ih, List.length_cons]
    omega
theorem count_c2 (T : List Nat) : Txt.count ⟨T.toArray⟩ ⟨#[92, 41]⟩ = (c2 T : Int) := by
  obtain ⟨f, hG, hn⟩ := StrLaws.occ_tight ⟨T.toArray⟩ ⟨#[92, 41]⟩ (by decide)
  have := c2_chain T _ 0 f hG hn
  rw [List.drop_zero] at this
  unfold Txt.count
  rw [this]
theorem c2_tree : ∀ (t : Tm) (a : Nat) (r : List Nat), t.good → c2 ((UT mk1 dot a t).flatten ++ r) = cnt2 t + c2 r
  | .lf, a, r, _ => by simp [UT, dot, cnt2, c2]
  | .nd f x y, a, r, ⟨hf, gx, gy⟩ => by
    have e : (UT mk1 dot a (.nd f x y)).flatten ++ r = 40 :: ((mk1 f).flatten ++ ((UT mk1 dot a x).flatten ++ (41 :: ((UT mk1 dot (a + x.size) y).flatten ++ r)))) := by simp [UT]
    rw [e]
    have h1 := c2_tree y (a + x.size) r gy
    have h2 := c2_tree x a (41 :: ((UT mk1 dot (a + x.size) y).flatten ++ r)) gx
    have e2 : ∀ z, c2 (41 :: z) = c2 z := fun z => by simp [c2]
    rw [e2, h1] at h2
    rcases hf with rfl | rfl
    · have e3 : ∀ z, c2 (40 :: ((mk1 1).flatten ++ z)) = c2 z := fun z => by simp [mk1, c2]
      rw [e3, h2]; simp [cnt2]; omega
    · have e3 : ∀ z, c2 (40 :: ((mk1 2).flatten ++ z)) = 1 + c2 z := fun z => by simp [mk1, c2]
      rw [e3, h2]; simp [cnt2]; omega
theorem count_tree (t : Tm) (h : t.good) : methD (S (UT mk1 dot 0 t).flatten) "count" [S [92, 41]] = some (iD (cnt2 t)) := by
  show some (D.int (Txt.count ⟨(UT mk1 dot 0 t).flatten.toArray⟩ ⟨#[92, 41]⟩)) = _
  rw [count_c2]
  have := c2_tree t 0 [] h
  rw [List.append_nil] at this
  rw [this]; rfl
end Mine
end

section
open PySem PySem.W PyProof.Rows
set_option maxRecDepth 100000
set_option exponentiation.threshold 5000
set_option maxHeartbeats 1000000
namespace Mine
noncomputable def lwD : DefRec := theD "law"
noncomputable def lw (i : Nat) : Stmt := stAt lwD.body i
noncomputable def asgV (s : Stmt) : Expr := sx s 0
noncomputable def ifT (s : Stmt) : Expr := sx s 0
variable {K : Know} {n : Nat} {sc : Scope} {σ σ' : Sig} {l l' : Fr2} {st : Stmt} {b rest : List Stmt} {r : Option (Fl × Fr2)} {d : D}

noncomputable def l10 (k : Nat) (ns : List Nd) (la sp ch : Nat) (rs : List Nat) : Fr2 := [("n", iD k), ("nodes", .list (ns.map nodeD)), ("last", iD la), ("spot", iD sp), ("change", iD ch), ("row", rowD rs)]
set_option tactic.hygienic false
theorem dots (k : Nat) (hk : k = 4 ∨ k = 5 ∨ k = 6) : ∃ L, binD .Mult (.str ".") (iD k) = some L ∧ bltD "len" [L] = some (.int (k : Int)) ∧ ∀ i, i < k → idxD L (iD i) = some (S [dot i]) := by
  rcases hk with rfl | rfl | rfl
  · exact ⟨_, rfl, rfl, fun i hi => by match i, hi with | 0, _ => rfl | 1, _ => rfl | 2, _ => rfl | 3, _ => rfl⟩
  · exact ⟨_, rfl, rfl, fun i hi => by match i, hi with | 0, _ => rfl | 1, _ => rfl | 2, _ => rfl | 3, _ => rfl | 4, _ => rfl⟩
  · exact ⟨_, rfl, rfl, fun i hi => by match i, hi with | 0, _ => rfl | 1, _ => rfl | 2, _ => rfl | 3, _ => rfl | 4, _ => rfl | 5, _ => rfl⟩
noncomputable def letD (rs : List Nat) : D := .list (rs.map fun k => S [code k])
theorem let_len (rs : List Nat) : bltD "len" [letD rs] = some (.int (rs.length : Int)) := by
  show some (D.int ((rs.map fun k => S [code k]).length : Int)) = _
  rw [List.length_map]
theorem let_idx (g : Nat → Nat) (k i : Nat) (h : i < k) : idxD (letD ((List.range k).map g)) (iD i) = some (S [code (g i)]) := by
  show (if (0 : Int) ≤ (i : Int) then (((List.range k).map g).map fun k => S [code k])[(i : Int).toNat]? else none) = _
  rw [if_pos (by omega), Int.toNat_natCast, List.map_map, List.getElem?_map, List.getElem?_range h]; rfl
theorem rgb_idx (k : Nat) (h : k < 3) : idxD (.str "rgb") (iD k) = some (S [code k]) := by
  match k, h with
  | 0, _ => rfl
  | 1, _ => rfl
  | 2, _ => rfl
theorem mark1 {ns : List Nd} (h : ∀ p ∈ ns, p.f = 1 ∨ p.f = 2) : ∀ p ∈ ns, ∃ x, binD .Mult (iD p.f) (.int 1) = some x ∧ idxD MD x = some (S (mk1 p.f).flatten) := fun p hp => by
  rcases h p hp with e | e <;> rw [e] <;> exact ⟨_, rfl, rfl⟩
theorem mark0 {ns : List Nd} (h : ∀ p ∈ ns, p.f = 1 ∨ p.f = 2) : ∀ p ∈ ns, ∃ x, binD .Mult (iD p.f) (.int 0) = some x ∧ idxD MD x = some (S (mk0 p.f).flatten) := fun p hp => by
  rcases h p hp with e | e <;> rw [e] <;> exact ⟨_, rfl, rfl⟩
theorem eq_S (a : List Nat) : eqD (S a) (S a) = some true := by
  show some ((⟨a.toArray⟩ : Str) == ⟨a.toArray⟩) = _
  rw [beq_self_eq_true]
theorem eq_tup (k : Nat) (hk : k < 3) (a : List Nat) : eqD (.tup [colD k, S a]) (.tup [colD k, S a]) = some true := by
  have h : ∀ b : Bool, ((⟨a.toArray⟩ : Str) == ⟨a.toArray⟩) = b → eqD (.tup [colD k, S a]) (.tup [colD k, S a]) = some (true && (b && true)) := by
    rintro b rfl
    match k, hk with
    | 0, _ => with_unfolding_all rfl
    | 1, _ => with_unfolding_all rfl
    | 2, _ => with_unfolding_all rfl
  rw [h true (beq_self_eq_true _)]; rfl
theorem eq_col (k : Nat) (hk : k < 3) : eqD (colD k) (colD k) = some true := by
  match k, hk with
  | 0, _ => with_unfolding_all rfl
  | 1, _ => with_unfolding_all rfl
  | 2, _ => with_unfolding_all rfl

theorem let_row (M N : Nat) (rs : List Nat) (h : ∀ k ∈ rs, k < 3) (hk : rs.length ≤ 60) (hr : Sg l "row" = some (rowD rs)) : ev (KK M) (N + 4) lwD.scope (Sg l) (kid (asgV (lw 11)) 2) = some (letD rs) := by
  refine ev_comp (rs.map iD) rfl rfl (it_val rfl (ev_name rfl rfl hr)) ?_ (by rw [List.length_map]; unfold big; omega)
  refine compL_all iD (fun k => S [code k]) rs fun k hk => comp_one rfl rfl rfl (compG_nil ?_)
  exact ev_sub (x := .str "rgb") (y := iD k) rfl rfl rfl rfl (rgb_idx k (h k hk))
theorem let_other (M N : Nat) (rs : List Nat) (h : ∀ k ∈ rs, k < 3) (hk : rs.length ≤ 60) (hr : Sg l "other" = some (rowD rs)) : ev (KK M) (N + 4) lwD.scope (Sg l) (kid (asgV (lw 15)) 2) = some (letD rs) := by
  refine ev_comp (rs.map iD) rfl rfl (it_val rfl (ev_name rfl rfl hr)) ?_ (by rw [List.length_map]; unfold big; omega)
  refine compL_all iD (fun k => S [code k]) rs fun k hk => comp_one rfl rfl rfl (compG_nil ?_)
  exact ev_sub (x := .str "rgb") (y := iD k) rfl rfl rfl rfl (rgb_idx k (h k hk))
noncomputable def l11 (k : Nat) (ns : List Nd) (la sp ch : Nat) (rs : List Nat) (P : List Nat) : Fr2 := l10 k ns la sp ch rs ++ ([("plan", S P)] : Fr2)
noncomputable def l12 (k : Nat) (ns : List Nd) (la sp ch : Nat) (rs : List Nat) (P Q : List Nat) : Fr2 := l10 k ns la sp ch rs ++ ([("plan", S P), ("lights", S Q)] : Fr2)
noncomputable def l14 (k : Nat) (ns : List Nd) (la sp ch : Nat) (rs : List Nat) (P Q : List Nat) (os : List Nat) : Fr2 := l10 k ns la sp ch rs ++ ([("plan", S P), ("lights", S Q), ("other", rowD os)] : Fr2)
noncomputable def l15 (k : Nat) (ns : List Nd) (la sp ch : Nat) (rs : List Nat) (P Q : List Nat) (os X : List Nat) : Fr2 := l10 k ns la sp ch rs ++ ([("plan", S P), ("lights", S Q), ("other", rowD os), ("text", S X)] : Fr2)
noncomputable def l16 (k : Nat) (ns : List Nd) (la sp ch : Nat) (rs : List Nat) (P Q : List Nat) (os X : List Nat) (c : Nat) (Y : List Nat) : Fr2 := l10 k ns la sp ch rs ++ ([("plan", S P), ("lights", S Q), ("other", rowD os), ("text", S X), ("told", colD c), ("turns", S Y)] : Fr2)
noncomputable def l18 (k : Nat) (ns : List Nd) (la sp ch : Nat) (rs : List Nat) (P Q : List Nat) (os X : List Nat) (c : Nat) (Y : List Nat) (od : List Nat) : Fr2 := l10 k ns la sp ch rs ++ ([("plan", S P), ("lights", S Q), ("other", rowD os), ("text", S X), ("told", colD c), ("turns", S Y), ("odd", rowD od)] : Fr2)
section
variable {k la sp ch : Nat} {ns : List Nd} {rs P Q os X Y od : List Nat} {c : Nat} {t : Tm} {g g' : Nat → Nat}
theorem st10 (m : Nat) (hk : k = 4 ∨ k = 5 ∨ k = 6) (hp : ns.Perm (NT 0 t)) (ht : t.size = k) (hg : t.good) : exL (KK (m + 2)) 59 lwD.scope (l10 k ns la sp ch rs) (lw 10) = some (.next, l11 k ns la sp ch rs (UT mk1 dot 0 t).flatten) := by
  obtain ⟨L, h1, h2, h3⟩ := dots k hk
  have hx := text_tree (g := dot) hp mk1_ok (by omega) (L := L) (tn := 1) (by rw [ht]; exact h2) (fun i hi => h3 i (by omega)) (mark1 fun p hp' => NT_good t 0 hg p (hp.mem_iff.mp hp')) m
  exact x_asg rfl rfl (ev_call [.list (ns.map nodeD), L, .int 1] rfl rfl rfl rfl (seq3 rfl (ev_bin (x := .str ".") (y := iD k) rfl rfl rfl rfl rfl h1) rfl) hx) rfl
theorem st11 (m : Nat) (hk : k = 4 ∨ k = 5 ∨ k = 6) (hp : ns.Perm (NT 0 t)) (ht : t.size = k) (hg : t.good) (hr : rs = (List.range k).map g) (hg3 : ∀ i, g i < 3) : exL (KK (m + 2)) 58 lwD.scope (l11 k ns la sp ch rs P) (lw 11) = some (.next, l12 k ns la sp ch rs P (UT mk0 (fun i => code (g i)) 0 t).flatten) := by
  have hl : rs.length = k := by rw [hr]; simp
  have hx := text_tree (g := fun i => code (g i)) hp mk0_ok (by omega) (L := letD rs) (tn := 0) (by rw [ht, let_len, hl]) (fun i hi => by rw [hr]; exact let_idx g k i (by omega)) (mark0 fun p hp' => NT_good t 0 hg p (hp.mem_iff.mp hp')) m
  exact x_asg rfl rfl (ev_call [.list (ns.map nodeD), letD rs, .int 0] rfl rfl rfl rfl (seq3 rfl (let_row (m + 2) 52 rs (fun x hx => by rw [hr] at hx; obtain ⟨i, _, rfl⟩ := List.mem_map.mp hx; exact hg3 i) (by omega) rfl) rfl) hx) rfl
theorem st15 (m : Nat) (hk : k = 4 ∨ k = 5 ∨ k = 6) (hp : ns.Perm (NT 0 t)) (ht : t.size = k) (hg : t.good) (hr : os = (List.range k).map g) (hg3 : ∀ i, g i < 3) : exL (KK (m + 2)) 54 lwD.scope (l14 k ns la sp ch rs P Q os) (lw 15) = some (.next, l15 k ns la sp ch rs P Q os (UT mk0 (fun i => code (g i)) 0 t).flatten) := by
  have hl : os.length = k := by rw [hr]; simp
  have hx := text_tree (g := fun i => code (g i)) hp mk0_ok (by omega) (L := letD os) (tn := 0) (by rw [ht, let_len, hl]) (fun i hi => by rw [hr]; exact let_idx g k i (by omega)) (mark0 fun p hp' => NT_good t 0 hg p (hp.mem_iff.mp hp')) m
  exact x_asg rfl rfl (ev_call [.list (ns.map nodeD), letD os, .int 0] rfl rfl rfl rfl (seq3 rfl (let_other (m + 2) 48 os (fun x hx => by rw [hr] at hx; obtain ⟨i, _, rfl⟩ := List.mem_map.mp hx; exact hg3 i) (by omega) rfl) rfl) hx) rfl
theorem units_tree (m : Nat) {mk : Nat → List (List Nat)} (hm : MkOK mk) {g : Nat → Nat} (t : Tm) (hs : t.size ≤ 100) : (KK (m + 2)).Φ "_law_units" [S (UT mk g 0 t).flatten] = some (.list ((UT mk g 0 t).map S)) :=
  units_run m _ (UT_wf hm t 0) (by have := UT_len (g := g) hm t 0; unfold big; omega)
theorem st12 (m : Nat) (ht : t.size ≤ m + 1) (hs : t.size ≤ 100) (hg : t.good) (hl : la < 3) : exL (KK (m + 4)) 57 lwD.scope (l12 k ns la sp ch rs (UT mk1 dot 0 t).flatten (UT mk0 (fun i => code (col t la 0 i)) 0 t).flatten) (lw 12) = some (.next, l12 k ns la sp ch rs (UT mk1 dot 0 t).flatten (UT mk0 (fun i => code (col t la 0 i)) 0 t).flatten) := by
  have hu := unfold_run t m la 0 hg hl hs ht
  have hun := units_tree (m + 2) mk1_ok (g := dot) t hs
  have hli := light_tab (m + 3) la hl
  refine x_iff rfl (tr_cmp rfl (by decide) (ev_call [_, _] rfl rfl rfl rfl (seq2 (ev_call [_] rfl rfl rfl rfl (seq1 rfl) hun) (ev_call [iD la] rfl rfl rfl rfl (seq1 rfl) hli)) hu) rfl ?_) (sc_nil rfl)
  show (eqD (S _) (S _)).map (!·) = _
  rw [eq_S]; rfl
theorem st13 (m : Nat) (ht : t.size ≤ m + 1) (hs : t.size ≤ 100) (hg : t.good) (hl : la < 3) : exL (KK (m + 4)) 56 lwD.scope (l12 k ns la sp ch rs (UT mk1 dot 0 t).flatten (UT mk0 (fun i => code (col t la 0 i)) 0 t).flatten) (lw 13) = some (.next, l12 k ns la sp ch rs (UT mk1 dot 0 t).flatten (UT mk0 (fun i => code (col t la 0 i)) 0 t).flatten) := by
  have hu := fold_run (g := col t la 0) (fun i => col_lt t la 0 i hl) t m 0 hs ht
  rw [fold_col t la 0 hg hl] at hu
  have hun := units_tree (m + 2) mk0_ok (g := fun i => code (col t la 0 i)) t hs
  have hli := light_tab (m + 3) la hl
  refine x_iff rfl (tr_cmp rfl (by decide) (ev_call [_] rfl rfl rfl rfl (seq1 (ev_call [_] rfl rfl rfl rfl (seq1 rfl) hun)) hu) (ev_tup rfl (seq2 (ev_call [iD la] rfl rfl rfl rfl (seq1 rfl) hli) rfl) (by simp)) ?_) (sc_nil rfl)
  show (eqD (.tup [colD la, S (UT mk1 dot 0 t).flatten]) (.tup [colD la, S (UT mk1 dot 0 t).flatten])).map (!·) = _
  rw [eq_tup la hl]; rfl
end
end Mine
end

section
open PySem PySem.W PyProof.Rows
set_option maxRecDepth 100000
set_option exponentiation.threshold 5000
set_option maxHeartbeats 1000000
namespace Mine
variable {K : Know} {n : Nat} {sc : Scope} {σ σ' : Sig} {l l' : Fr2} {st : Stmt} {b rest : List Stmt} {r : Option (Fl × Fr2)} {d : D}

set_option tactic.hygienic false
theorem mod3 (a : Nat) : binD .Mod (iD a) (.int 3) = some (iD (a % 3)) := by
  show some (D.int ((a : Int).fmod 3)) = some (D.int ((a % 3 : Nat) : Int))
  rw [Int.fmod_eq_emod_of_nonneg _ (by omega)]
  congr 2
theorem ev_cmp {e l r : Expr} {op : CmpOp} {p : Pos} {x y : D} {b : Bool} (he : e = .Compare l [op] [r] p) (h1 : ev K n sc σ l = some x) (h2 : ev K n sc σ r = some y) (h : cmpD op x y = some b) : ev K (n + 1) sc σ e = some (.bool b) := by
  subst he
  show ((ev K n sc σ l).bind fun a => (chainT (ev K n sc σ) a [op] [r]).map D.bool) = _
  rw [h1, Option.bind_some, chainT_1, h2, Option.bind_some, h]; rfl
theorem tr_or2 {e a b : Expr} {p : Pos} (he : e = .BoolOp .Or [a, b] p) (h1 : tr K n sc σ a = some false) (h2 : tr K n sc σ b = some false) : tr K (n + 1) sc σ e = some false := by
  subst he
  show allT (tr K n sc σ) .Or [a, b] = _
  simp [allT, h1, h2]
theorem getD_row (g : Nat → Nat) (k i : Nat) (h : i < k) : ((List.range k).map g).getD i 0 = g i := by
  simp [List.getD, h]
noncomputable def gOther (g : Nat → Nat) (sp ch : Nat) (i : Nat) : Nat := if i = sp then (g i + ch) % 3 else g i
theorem gOther_lt {g : Nat → Nat} (h : ∀ i, g i < 3) (sp ch : Nat) : ∀ i, gOther g sp ch i < 3 := fun i => by
  unfold gOther
  split
  · exact Nat.mod_lt _ (by omega)
  · exact h i
section
variable {k la sp ch : Nat} {ns : List Nd} {rs P Q os X Y od : List Nat} {c : Nat} {t : Tm} {g : Nat → Nat}
theorem st14 (M : Nat) (hk : k ≤ 60) (hr : rs = (List.range k).map g) : exL (KK M) 55 lwD.scope (l12 k ns la sp ch rs P Q) (lw 14) = some (.next, l14 k ns la sp ch rs P Q ((List.range k).map (gOther g sp ch))) := by
  refine x_asg (d := rowD ((List.range k).map (gOther g sp ch))) rfl rfl ?_ rfl
  unfold rowD
  rw [List.map_map]
  refine ev_comp ((List.range k).map iD) rfl rfl (by rw [← rng0]; exact it_range1 (b := (k : Int)) rfl rfl rfl (small_nat _ (by omega))) ?_ (by rw [List.length_map, List.length_range]; unfold big; omega)
  refine compL_all iD _ (List.range k) fun i hi => comp_one rfl rfl rfl (compG_nil ?_)
  have hi := List.mem_range.mp hi
  have hidx : idxD (rowD rs) (iD i) = some (iD (g i)) := by
    rw [idx_row rs i (by rw [hr]; simpa using hi), hr, getD_row g k i hi]
  refine ev_if (c := i == sp) rfl (tr_cmp (x := iD i) (y := iD sp) rfl (by decide) rfl rfl (eqI i sp)) ?_
  show _ = some (iD (gOther g sp ch i))
  unfold gOther
  cases h : i == sp
  · rw [if_neg (by simp), if_neg (by simpa using h)]
    exact ev_sub (x := rowD rs) (y := iD i) rfl rfl rfl rfl hidx
  · rw [if_pos rfl, if_pos (by simpa using h)]
    exact ev_bin (x := iD (g i + ch)) (y := .int 3) rfl rfl rfl (ev_bin (x := iD (g i)) (y := iD ch) rfl rfl rfl (ev_sub (x := rowD rs) (y := iD i) rfl rfl rfl rfl hidx) rfl (add_I _ _)) rfl (mod3 _)
theorem st16 (m : Nat) (hg : ∀ i, g i < 3) (ht : t.size ≤ m + 1) (hs : t.size ≤ 100) : exL (KK (m + 4)) 53 lwD.scope (l15 k ns la sp ch rs P Q os (UT mk0 (fun i => code (g i)) 0 t).flatten) (lw 16) = some (.next, l16 k ns la sp ch rs P Q os (UT mk0 (fun i => code (g i)) 0 t).flatten (resC (foldT g 0 t)) (resT (foldT g 0 t))) := by
  have hu := fold_run hg t m 0 hs ht
  have hun := units_tree (m + 2) mk0_ok (g := fun i => code (g i)) t hs
  exact x_asg rfl rfl (ev_call [_] rfl rfl rfl rfl (seq1 (ev_call [_] rfl rfl rfl rfl (seq1 rfl) hun)) hu) rfl
noncomputable def trivB (o : List Nat) : Bool := decide ([0, 0, 0] = o) || (decide ([1, 1, 1] = o) || false)
theorem trivB_iff (o : List Nat) : trivB o = true ↔ triv o := by
  unfold trivB triv
  rw [Bool.or_false, Bool.or_eq_true, decide_eq_true_eq, decide_eq_true_eq]
  exact ⟨fun h => h.imp Eq.symm Eq.symm, fun h => h.imp Eq.symm Eq.symm⟩
theorem eq000 (x y z : Nat) : eqD (.list [.int 0, .int 0, .int 0]) (rowD [x, y, z]) = some (decide ([0, 0, 0] = [x, y, z])) := by
  have h3 : eqD (.list [.int 0, .int 0, .int 0]) (rowD [x, y, z]) = some (((0 : Int) == (x : Int)) && (((0 : Int) == (y : Int)) && (((0 : Int) == (z : Int)) && true))) := rfl
  rw [h3]
  have : (((0 : Int) == (x : Int)) && (((0 : Int) == (y : Int)) && (((0 : Int) == (z : Int)) && true))) = decide ([0, 0, 0] = [x, y, z]) := by
    rw [Bool.eq_iff_iff]
    simp
    omega
  rw [this]
theorem eq111 (x y z : Nat) : eqD (.list [.int 1, .int 1, .int 1]) (rowD [x, y, z]) = some (decide ([1, 1, 1] = [x, y, z])) := by
  have h3 : eqD (.list [.int 1, .int 1, .int 1]) (rowD [x, y, z]) = some (((1 : Int) == (x : Int)) && (((1 : Int) == (y : Int)) && (((1 : Int) == (z : Int)) && true))) := rfl
  rw [h3]
  have : (((1 : Int) == (x : Int)) && (((1 : Int) == (y : Int)) && (((1 : Int) == (z : Int)) && true))) = decide ([1, 1, 1] = [x, y, z]) := by
    rw [Bool.eq_iff_iff]
    simp
    omega
  rw [this]
theorem in_triv (os : List Nat) : inD (rowD (oddR os)) [.list [.int 0, .int 0, .int 0], .list [.int 1, .int 1, .int 1]] = some (trivB (oddR os)) := by
  have e0 := eq000 (cnt os 0 % 2) (cnt os 1 % 2) (cnt os 2 % 2)
  have e1 := eq111 (cnt os 0 % 2) (cnt os 1 % 2) (cnt os 2 % 2)
  show inD (rowD [cnt os 0 % 2, cnt os 1 % 2, cnt os 2 % 2]) _ = some (trivB [cnt os 0 % 2, cnt os 1 % 2, cnt os 2 % 2])
  simp only [inD, e0, e1, trivB]
theorem row_slice (g : Nat → Nat) (k a b : Nat) (h1 : a ≤ b) (h2 : b ≤ k) : (((List.range k).map g).drop a).take (b - a) = rowS g a (b - a) := by
  unfold rowS
  rw [← List.map_drop, ← List.map_take]
  congr 1
  rw [List.range_eq_range']
  apply List.ext_getElem
  · simp; omega
  · intro i q1 q2
    simp
noncomputable def deadB (g : Nat → Nat) (p : Nd) : Bool := trivB (oddR (rowS g p.a (p.b - p.a)))
theorem dead_ev (m : Nat) (hk : k ≤ 60) (hns : ∀ p ∈ ns, p.a < p.b ∧ p.b ≤ k) (hfew : ns.length ≤ 60) (ho : os = (List.range k).map g) : ev (KK (m + 1)) 50 lwD.scope (Sg (l16 k ns la sp ch rs P Q os X c Y)) (kid (ifT (lw 17)) 0) = some (.list ((ns.filter (deadB g)).map fun p => iD p.a)) := by
  refine ev_comp (ns.map nodeD) rfl rfl (it_val rfl rfl) (compL_map nodeD (deadB g) (fun p => iD p.a) ns fun p hp => ?_) (by rw [List.length_map]; exact Nat.le_trans (List.length_filter_le _ _) (by unfold big; omega))
  obtain ⟨q1, q2⟩ := hns p hp
  have hsl : sliceD (rowD os) (some (p.a : Int)) (some (p.b : Int)) = some (rowD (rowS g p.a (p.b - p.a))) := by
    unfold rowD
    rw [sl_mid _ _ _ (by rw [ho]; simp; omega), ho, ← List.map_drop, ← List.map_take, row_slice g k p.a p.b (by omega) q2]
  cases h : deadB g p
  · rw [if_neg (by simp)]
    refine comp_skip rfl rfl (ifs1 (tr_cmp rfl (by decide) (ev_call [rowD (rowS g p.a (p.b - p.a))] rfl rfl rfl rfl (seq1 (ev_slice rfl rfl (bnd_nat p.a (by omega) rfl) (bnd_nat p.b (by omega) rfl) hsl)) (odd_run m _)) rfl ?_))
    exact (in_triv _).trans (by rw [← h]; rfl)
  · rw [if_pos rfl]
    refine comp_one rfl rfl (ifs1 (tr_cmp rfl (by decide) (ev_call [rowD (rowS g p.a (p.b - p.a))] rfl rfl rfl rfl (seq1 (ev_slice rfl rfl (bnd_nat p.a (by omega) rfl) (bnd_nat p.b (by omega) rfl) hsl)) (odd_run m _)) rfl ?_)) (compG_nil rfl)
    exact (in_triv _).trans (by rw [← h]; rfl)
theorem ne_nil (xs : List D) : cmpD .NotEq (.list xs) (.list []) = some (!xs.isEmpty) := by
  cases xs <;> rfl
theorem st17_dead (m : Nat) (hk : k ≤ 60) (hns : ∀ p ∈ ns, p.a < p.b ∧ p.b ≤ k) (hfew : ns.length ≤ 60) (ho : os = (List.range k).map g) (hd : dead g ns) : exL (KK (m + 1)) 52 lwD.scope (l16 k ns la sp ch rs P Q os X c []) (lw 17) = some (.ret (.bool true), l16 k ns la sp ch rs P Q os X c []) := by
  have he := dead_ev (la := la) (sp := sp) (ch := ch) (rs := rs) (P := P) (Q := Q) (X := X) (c := c) (Y := []) m hk hns hfew ho
  have hne : ((ns.filter (deadB g)).map fun p => iD p.a).isEmpty = false := by
    obtain ⟨p, hp, ht⟩ := hd
    have : p ∈ ns.filter (deadB g) := List.mem_filter.mpr ⟨hp, (trivB_iff _).mpr ht⟩
    cases h : ns.filter (deadB g) with
    | nil => rw [h] at this; simp at this
    | cons x xs => rfl
  have hc := ne_nil ((ns.filter (deadB g)).map fun p => iD p.a)
  rw [hne] at hc
  exact x_ift rfl (tr_cmp rfl (by decide) he rfl hc) (sc_ret rfl (x_ret rfl (ev_cmp (x := S []) (y := .str "") rfl rfl rfl rfl)))
theorem st17_live (m : Nat) (hk : k ≤ 60) (hns : ∀ p ∈ ns, p.a < p.b ∧ p.b ≤ k) (hfew : ns.length ≤ 60) (ho : os = (List.range k).map g) (hd : ¬ dead g ns) : exL (KK (m + 1)) 52 lwD.scope (l16 k ns la sp ch rs P Q os X c Y) (lw 17) = some (.next, l16 k ns la sp ch rs P Q os X c Y) := by
  have he := dead_ev (la := la) (sp := sp) (ch := ch) (rs := rs) (P := P) (Q := Q) (X := X) (c := c) (Y := Y) m hk hns hfew ho
  have hne : ns.filter (deadB g) = [] := by
    rw [List.filter_eq_nil_iff]
    exact fun p hp q => hd ⟨p, hp, (trivB_iff _).mp q⟩
  have hc := ne_nil ((ns.filter (deadB g)).map fun p => iD p.a)
  rw [hne] at hc he
  exact x_iff rfl (tr_cmp rfl (by decide) he rfl hc) (sc_nil rfl)
theorem st18 (m : Nat) : exL (KK (m + 1)) 51 lwD.scope (l16 k ns la sp ch rs P Q os X c Y) (lw 18) = some (.next, l18 k ns la sp ch rs P Q os X c Y (oddR os)) :=
  x_asg rfl rfl (ev_call [rowD os] rfl rfl rfl rfl (seq1 rfl) (odd_run m os)) rfl
theorem told_ev (M : Nat) (h : unitP c od) : ev (KK M) 47 lwD.scope (Sg (l18 k ns la sp ch rs P Q os X c Y od)) (kid (kid (ifT (lw 19)) 0) 1) = some (colD c) := by
  rcases h with ⟨rfl, h⟩ | ⟨rfl, h⟩ | ⟨rfl, h⟩ <;> rcases h with rfl | rfl <;> rfl
theorem st19 (m : Nat) (hc : c < 3) (h : unitP c od) (hs : cnt2 t % 2 = sgn os) (hg : t.good) (ho : os.length ≤ 30) : exL (KK (m + 2)) 50 lwD.scope (l18 k ns la sp ch rs P Q os X c (UT mk1 dot 0 t).flatten od) (lw 19) = some (.next, l18 k ns la sp ch rs P Q os X c (UT mk1 dot 0 t).flatten od) := by
  have h1 := told_ev (k := k) (ns := ns) (la := la) (sp := sp) (ch := ch) (rs := rs) (P := P) (Q := Q) (os := os) (X := X) (Y := (UT mk1 dot 0 t).flatten) (m + 2) h
  refine x_iff rfl (tr_or2 rfl (tr_cmp (x := colD c) (y := colD c) rfl (by decide) rfl h1 ?_) (tr_cmp (x := iD (cnt2 t % 2)) (y := iD (sgn os)) rfl (by decide) (ev_bin (x := iD (cnt2 t)) (y := .int 2) rfl rfl rfl (ev_meth (x := S (UT mk1 dot 0 t).flatten) (y := S [92, 41]) rfl rfl rfl rfl (count_tree t hg)) rfl (mod2 _)) (ev_call [rowD os] rfl rfl rfl rfl (seq1 rfl) (sign_run m os ho)) ?_)) (sc_nil rfl)
  · show (eqD (colD c) (colD c)).map (!·) = _
    rw [eq_col c hc]; rfl
  · show (eqD (iD (cnt2 t % 2)) (iD (sgn os))).map (!·) = _
    rw [eqI, hs]; simp
theorem st20 (m : Nat) {t' : Tm} (hg : ∀ i, g i < 3) (hf : foldT g 0 t = some (c, t')) (ht : t.size ≤ m + 1) (hs : t.size ≤ 100) : exL (KK (m + 4)) 49 lwD.scope (l18 k ns la sp ch rs P Q os (UT mk0 (fun i => code (g i)) 0 t).flatten c (UT mk1 dot 0 t').flatten od) (lw 20) = some (.ret (.bool true), l18 k ns la sp ch rs P Q os (UT mk0 (fun i => code (g i)) 0 t).flatten c (UT mk1 dot 0 t').flatten od) := by
  obtain ⟨hc, hsz, hgd⟩ := foldT_lt hg t 0 c t' hf
  have hu := unfold_run t' m c 0 hgd hc (by omega) (by omega)
  have hun := units_tree (m + 2) mk1_ok (g := dot) t' (by omega)
  have e : UT mk0 (fun i => code (col t' c 0 i)) 0 t' = UT mk0 (fun i => code (g i)) 0 t := by
    rw [UT_congr (g' := fun i => code (g i)) t' 0 fun i h1 h2 => by rw [col_fold hg t 0 c t' hf i h1 (by omega)], UT_fold hg t 0 c t' hf]
  rw [e] at hu
  exact x_ret rfl (ev_cmp rfl (ev_call [_, _] rfl rfl rfl rfl (seq2 (ev_call [_] rfl rfl rfl rfl (seq1 rfl) hun) rfl) hu) rfl (eq_S _))
theorem tail_run (m : Nat) (hk : k = 4 ∨ k = 5 ∨ k = 6) (hp : ns.Perm (NT 0 t)) (ht : t.size = k) (hg : t.good) (hl : la < 3) (hr : rs = (List.range k).map (col t la 0)) (hm : 6 ≤ m) :
    ∃ l', exsL (KK (m + 4)) 60 lwD.scope (l10 k ns la sp ch rs) (lwD.body.drop 10) = some (.ret (.bool true), l') := by
  have hlt : ∀ i, col t la 0 i < 3 := fun i => col_lt t la 0 i hl
  have hlt' := gOther_lt hlt sp ch
  have hns : ∀ p ∈ ns, p.a < p.b ∧ p.b ≤ k := fun p q => by
    have := NT_rng t 0 p (hp.mem_iff.mp q); omega
  have hfew : ns.length ≤ 60 := by have := NT_len t 0; rw [hp.length_eq]; omega
  have hdead : dead (gOther (col t la 0) sp ch) ns ↔ dead (gOther (col t la 0) sp ch) (NT 0 t) := by
    constructor
    · rintro ⟨p, h1, h2⟩; exact ⟨p, hp.mem_iff.mp h1, h2⟩
    · rintro ⟨p, h1, h2⟩; exact ⟨p, hp.mem_iff.mpr h1, h2⟩
  have s10 := st10 (k := k) (la := la) (sp := sp) (ch := ch) (rs := rs) (m + 2) hk hp ht hg
  have s11 := st11 (la := la) (sp := sp) (ch := ch) (P := (UT mk1 dot 0 t).flatten) (m + 2) hk hp ht hg hr hlt
  have s12 := st12 (k := k) (ns := ns) (sp := sp) (ch := ch) (rs := rs) m (by omega) (by omega) hg hl
  have s13 := st13 (k := k) (ns := ns) (sp := sp) (ch := ch) (rs := rs) m (by omega) (by omega) hg hl
  have s14 := st14 (ns := ns) (la := la) (sp := sp) (ch := ch) (P := (UT mk1 dot 0 t).flatten) (Q := (UT mk0 (fun i => code (col t la 0 i)) 0 t).flatten) (m + 4) (by omega) hr
  have s15 := st15 (la := la) (sp := sp) (ch := ch) (rs := rs) (P := (UT mk1 dot 0 t).flatten) (Q := (UT mk0 (fun i => code (col t la 0 i)) 0 t).flatten) (m + 2) hk hp ht hg (os := (List.range k).map (gOther (col t la 0) sp ch)) rfl hlt'
  have s16 := st16 (k := k) (ns := ns) (la := la) (sp := sp) (ch := ch) (rs := rs) (P := (UT mk1 dot 0 t).flatten) (Q := (UT mk0 (fun i => code (col t la 0 i)) 0 t).flatten) (os := (List.range k).map (gOther (col t la 0) sp ch)) m hlt' (t := t) (by omega) (by omega)
  rcases fold_par hlt' t 0 with ⟨c, t', q, u, d⟩ | ⟨q, d⟩
  · obtain ⟨hc, hsz, hgd⟩ := foldT_lt hlt' t 0 c t' q
    have hos : rowS (gOther (col t la 0) sp ch) 0 t.size = (List.range k).map (gOther (col t la 0) sp ch) := by unfold rowS; rw [ht, List.range_eq_range']
    have hsg := fold_sign hlt' t 0 c t' q
    rw [hos] at u hsg
    rw [q] at s16
    have s17 := st17_live (la := la) (sp := sp) (ch := ch) (rs := rs) (P := (UT mk1 dot 0 t).flatten) (Q := (UT mk0 (fun i => code (col t la 0 i)) 0 t).flatten) (X := (UT mk0 (fun i => code (gOther (col t la 0) sp ch i)) 0 t).flatten) (c := c) (Y := (UT mk1 dot 0 t').flatten) (m + 3) (by omega) hns hfew (os := (List.range k).map (gOther (col t la 0) sp ch)) rfl (fun h => d (hdead.mp h))
    have s18 := st18 (k := k) (ns := ns) (la := la) (sp := sp) (ch := ch) (rs := rs) (P := (UT mk1 dot 0 t).flatten) (Q := (UT mk0 (fun i => code (col t la 0 i)) 0 t).flatten) (os := (List.range k).map (gOther (col t la 0) sp ch)) (X := (UT mk0 (fun i => code (gOther (col t la 0) sp ch i)) 0 t).flatten) (c := c) (Y := (UT mk1 dot 0 t').flatten) (m + 3)
    have s19 := st19 (k := k) (ns := ns) (la := la) (sp := sp) (ch := ch) (rs := rs) (P := (UT mk1 dot 0 t).flatten) (Q := (UT mk0 (fun i => code (col t la 0 i)) 0 t).flatten) (X := (UT mk0 (fun i => code (gOther (col t la 0) sp ch i)) 0 t).flatten) (m + 2) hc u hsg hgd (by simp; omega)
    have s20 := st20 (k := k) (ns := ns) (la := la) (sp := sp) (ch := ch) (rs := rs) (P := (UT mk1 dot 0 t).flatten) (Q := (UT mk0 (fun i => code (col t la 0 i)) 0 t).flatten) (os := (List.range k).map (gOther (col t la 0) sp ch)) (od := oddR ((List.range k).map (gOther (col t la 0) sp ch))) m hlt' q (by omega) (by omega)
    exact ⟨_, sc_next rfl s10 (sc_next rfl s11 (sc_next rfl s12 (sc_next rfl s13 (sc_next rfl s14 (sc_next rfl s15 (sc_next rfl s16 (sc_next rfl s17 (sc_next rfl s18 (sc_next rfl s19 (sc_ret rfl s20))))))))))⟩
  · rw [q] at s16
    have s17 := st17_dead (la := la) (sp := sp) (ch := ch) (rs := rs) (P := (UT mk1 dot 0 t).flatten) (Q := (UT mk0 (fun i => code (col t la 0 i)) 0 t).flatten) (X := (UT mk0 (fun i => code (gOther (col t la 0) sp ch i)) 0 t).flatten) (c := 3) (m + 3) (by omega) hns hfew (os := (List.range k).map (gOther (col t la 0) sp ch)) rfl (hdead.mpr d)
    exact ⟨_, sc_next rfl s10 (sc_next rfl s11 (sc_next rfl s12 (sc_next rfl s13 (sc_next rfl s14 (sc_next rfl s15 (sc_next rfl s16 (sc_ret rfl s17)))))))⟩
end
end Mine
end

section
open PySem PySem.W PyProof.Rows
set_option maxRecDepth 100000
set_option maxHeartbeats 1000000
namespace Mine
noncomputable def BindP (d : DefRec) : Prop := ∀ (vs : List Value) (pm code doc : Value), vs.length = d.params.args.length → bindArgs (Calls.docDef d.name d.params d.body d.scope pm code doc) ⟨vs, []⟩ = pure ((d.params.args.map (·.arg)).zip vs)
set_option tactic.hygienic false
theorem len1 {α : Type} {l : List α} (h : l.length = 1) : ∃ a, l = [a] := by
  cases l with
  | nil => cases h
  | cons a t => cases t with
    | nil => exact ⟨a, rfl⟩
    | cons b t => exact absurd (Nat.succ.inj h) (Nat.succ_ne_zero _)
theorem len2 {α : Type} {l : List α} (h : l.length = 2) : ∃ a b, l = [a, b] := by
  cases l with
  | nil => cases h
  | cons a t => obtain ⟨b, e⟩ := len1 (Nat.succ.inj h); exact ⟨a, b, by rw [e]⟩
theorem len3 {α : Type} {l : List α} (h : l.length = 3) : ∃ a b c, l = [a, b, c] := by
  cases l with
  | nil => cases h
  | cons a t => obtain ⟨b, c, e⟩ := len2 (Nat.succ.inj h); exact ⟨a, b, c, by rw [e]⟩
theorem bp1 (x : Str) (h : (theD x).params.args.length = 1) (k : ∀ v pm code doc, bindArgs (Calls.docDef (theD x).name (theD x).params (theD x).body (theD x).scope pm code doc) ⟨[v], []⟩ = pure (((theD x).params.args.map (·.arg)).zip [v])) : BindP (theD x) := fun vs pm code doc e => by
  rw [h] at e
  obtain ⟨v, rfl⟩ := len1 e
  exact k v pm code doc
theorem bp2 (x : Str) (h : (theD x).params.args.length = 2) (k : ∀ u v pm code doc, bindArgs (Calls.docDef (theD x).name (theD x).params (theD x).body (theD x).scope pm code doc) ⟨[u, v], []⟩ = pure (((theD x).params.args.map (·.arg)).zip [u, v])) : BindP (theD x) := fun vs pm code doc e => by
  rw [h] at e
  obtain ⟨u, v, rfl⟩ := len2 e
  exact k u v pm code doc
theorem bp3 (x : Str) (h : (theD x).params.args.length = 3) (k : ∀ u v w pm code doc, bindArgs (Calls.docDef (theD x).name (theD x).params (theD x).body (theD x).scope pm code doc) ⟨[u, v, w], []⟩ = pure (((theD x).params.args.map (·.arg)).zip [u, v, w])) : BindP (theD x) := fun vs pm code doc e => by
  rw [h] at e
  obtain ⟨u, v, w, rfl⟩ := len3 e
  exact k u v w pm code doc
theorem defs_eq : theDefs = [theD "rgb_to_hls", theD "hls_to_rgb", theD "_v", theD "rgb_to_hsv", theD "hsv_to_rgb", theD "_iter_escaped_chars", theD "_strip_quoted_realnames", theD "_check_parenthesis", theD "_law_units", theD "_law_cut", theD "_law_light", theD "_law_letter", theD "_law_turn", theD "_law_unfold", theD "_law_fold", theD "_law_text", theD "_law_odd", theD "_law_sign", theD "law"] := rfl
theorem bind_all : ∀ d ∈ theDefs, BindP d := by
  rw [defs_eq]
  simp only [List.mem_cons, List.not_mem_nil, or_false]
  rintro d (rfl | rfl | rfl | rfl | rfl | rfl | rfl | rfl | rfl | rfl | rfl | rfl | rfl | rfl | rfl | rfl | rfl | rfl | rfl)
  · exact bp3 _ rfl fun zz zz zz zz zz zz => rfl
  · exact bp3 _ rfl fun zz zz zz zz zz zz => rfl
  · exact bp3 _ rfl fun zz zz zz zz zz zz => rfl
  · exact bp3 _ rfl fun zz zz zz zz zz zz => rfl
  · exact bp3 _ rfl fun zz zz zz zz zz zz => rfl
  · exact bp1 _ rfl fun zz zz zz zz => rfl
  · exact bp1 _ rfl fun zz zz zz zz => rfl
  · exact bp1 _ rfl fun zz zz zz zz => rfl
  · exact bp1 _ rfl fun zz zz zz zz => rfl
  · exact bp1 _ rfl fun zz zz zz zz => rfl
  · exact bp1 _ rfl fun zz zz zz zz => rfl
  · exact bp1 _ rfl fun zz zz zz zz => rfl
  · exact bp2 _ rfl fun zz zz zz zz zz => rfl
  · exact bp2 _ rfl fun zz zz zz zz zz => rfl
  · exact bp1 _ rfl fun zz zz zz zz => rfl
  · exact bp3 _ rfl fun zz zz zz zz zz zz => rfl
  · exact bp1 _ rfl fun zz zz zz zz => rfl
  · exact bp1 _ rfl fun zz zz zz zz => rfl
  · exact bp1 _ rfl fun zz zz zz zz => rfl
noncomputable def chkD (d : DefRec) : Bool := d.scope.kind == .function && !d.scope.isCoroutine && (d.scope.names.all fun y => y.2 != .free) && ((d.params.args.map (·.arg)).all fun x => stOk d.scope x) && (decide (d.scope ≠ lscP) || (decide (d.name = "_law_text") && !d.scope.isGenerator)) &&
  (!d.scope.isGenerator || ((d.scope.names.all fun y => y.2 != .cell) && ((d.params.args.map (·.arg)).all fun x => d.scope.names.lookup x == some .local)))
theorem chk_all : theDefs.all chkD = true := by decide +kernel

structure CxOK (c : Cx) : Prop where
  defs : ∀ d ∈ theDefs, d ∈ c.defs
  lsc : c.lsc = lscP
  pos : c.line = 170 ∧ c.col = 70
  qual : c.qual = "_law_text.<locals>.<lambda>"
  fa : ∀ d ∈ theDefs, ∃ a, c.mg d.name = some (.ref a)
  gl : ∀ x b, glP x = some b → ∃ t, c.mg x = some (.float b t)
  blt : Blt c
variable {c : Cx}
theorem def_ok (X : CxOK c) {d : DefRec} (hd : d ∈ theDefs) (hg : d.scope.isGenerator = false) : DefOK c d := by
  have h := List.all_eq_true.mp chk_all d hd
  simp only [chkD, Bool.and_eq_true, Bool.or_eq_true, Bool.not_eq_true', decide_eq_true_eq, List.all_eq_true, bne_iff_ne, ne_eq, beq_iff_eq] at h
  obtain ⟨⟨⟨⟨⟨h1, h2⟩, h3⟩, h4⟩, h5⟩, h6⟩ := h
  refine ⟨X.defs d hd, bind_all d hd, h1, hg, h2, fun y hy => h3 y hy, fun x hx => h4 x hx, fun e => ?_⟩
  rw [X.lsc] at e
  rcases h5 with h5 | h5
  · exact absurd e h5
  · refine ⟨h5.1, ?_⟩
    rw [h5.1, X.qual]; decide
theorem gen_ok (X : CxOK c) {d : DefRec} (hd : d ∈ theDefs) (hg : d.scope.isGenerator = true) : GenOK c d := by
  have h := List.all_eq_true.mp chk_all d hd
  simp only [chkD, Bool.and_eq_true, Bool.or_eq_true, Bool.not_eq_true', decide_eq_true_eq, List.all_eq_true, bne_iff_ne, ne_eq, beq_iff_eq] at h
  obtain ⟨⟨⟨⟨⟨h1, h2⟩, h3⟩, h4⟩, h5⟩, h6⟩ := h
  rw [hg] at h6 h5
  have h6 := h6.resolve_left (by simp)
  refine ⟨X.defs d hd, bind_all d hd, h1, hg, h2, fun y hy => h3 y hy, fun y hy => h6.1 y hy, fun x hx => h6.2 x hx, fun e => ?_⟩
  rw [X.lsc] at e
  rcases h5 with h5 | h5
  · exact h5 e
  · simp at h5
theorem findD_some {f : Str} {d : DefRec} (h : findD f = some d) : d ∈ theDefs ∧ d.name = f := by
  unfold findD at h
  have h1 := List.find?_some h
  exact ⟨List.mem_of_find?_eq_some h, by simpa using h1⟩
theorem setAll_flat : ∀ {xs : List Str} {ds : List D} {σ σ' : Sig}, setAll σ xs ds = some σ' → FlatS σ → (∀ d ∈ ds, flatD d = true) → FlatS σ'
  | [], [], σ, σ', h, hf, _ => by simp only [setAll] at h; cases h; exact hf
  | [], _ :: _, _, _, h, _, _ => by simp only [setAll] at h; cases h
  | _ :: _, [], _, _, h, _, _ => by simp only [setAll] at h; cases h
  | x :: xs, d :: ds, σ, σ', h, hf, hd => by
    simp only [setAll] at h
    exact setAll_flat h (hf.set (hd d (by simp))) fun e he => hd e (List.mem_cons_of_mem _ he)
set_option tactic.hygienic true
theorem know_ok (X : CxOK c) : ∀ m, KnowOK c (KK m) m := by
  intro m
  have obj : ∀ {d a}, d ∈ theDefs → c.mg d.name = some (.ref a) → ∀ (s : Shared) (T : Gh), Ok c s T → ∃ o fd, s.heap.get? a = some o ∧ o.data = .func fd := fun hd ha s T g => by
    obtain ⟨a', o, pm, code, doc, h1, h2, h3, _⟩ := g.gd.fn _ (X.defs _ hd)
    rw [ha] at h1; cases h1
    exact ⟨o, _, h2, h3⟩
  have rest : ∀ m, (∀ x b, (KK m).gl x = some b → ∃ t, c.mg x = some (.float b t)) ∧ (KK m).lsc = c.lsc ∧ (KK m).lpos = (c.line, c.col) := fun m => ⟨X.gl, X.lsc.symm, by rw [X.pos.1, X.pos.2]; rfl⟩
  induction m with
  | zero => exact ⟨fun f ds d h => (by cases h), fun f ds l h => (by cases h), (rest 0).1, (rest 0).2.1, (rest 0).2.2⟩
  | succ m ih =>
    refine ⟨fun f ds v h => ?_, fun f ds l h => ?_, (rest _).1, (rest _).2.1, (rest _).2.2⟩
    · replace h : (match (generalizing := false) ds, findD f with
        | _ :: _, some d => if d.scope.isGenerator then none else runD (mkK (PG m)) 60 d ds
        | _, _ => none) = some v := h
      split at h
      · rename_i a as d hf
        split at h
        · cases h
        · rename_i hg
          obtain ⟨hd, hn⟩ := findD_some hf
          obtain ⟨addr, ha⟩ := X.fa d hd
          refine ⟨by simp, addr, by rw [← hn]; exact ha, obj hd ha, fun A s T X' vs hr g hX H => ?_⟩
          exact fn_sound X.blt ih (sort_ok X.blt m) (def_ok X hd (by simpa using hg)) h ha hr g hX H
      · cases h
    · replace h : (match (generalizing := false) ds, findD f with
        | [.str s], some d => if d.scope.isGenerator then (setAll (fun zz => none) (d.params.args.map (·.arg)) [.str s]).bind fun σ => (gxs (mkK (PG m)) true 60 d.scope σ d.body).map (·.1) else none
        | _, _ => none) = some l := h
      split at h
      · rename_i s d hf
        split at h
        · rename_i hg
          obtain ⟨hd, hn⟩ := findD_some hf
          obtain ⟨addr, ha⟩ := X.fa d hd
          rw [Option.bind_eq_some_iff] at h
          obtain ⟨σ₀, hσ, h⟩ := h
          rw [Option.map_eq_some_iff] at h
          obtain ⟨⟨l', σ'⟩, h, rfl⟩ := h
          refine ⟨by simp, addr, by rw [← hn]; exact ha, obj hd ha, fun A s' T X' vs hr g hX H => ?_⟩
          have hflat : FlatS σ₀ := setAll_flat hσ (fun x d e => by cases e) (by simp [flatD])
          exact gen_sound X.blt ih (gen_ok X hd hg) hσ hflat h ha hr g hX H
        · cases h
      · cases h
end Mine
end

section
open PySem PySem.W PyProof.Rows PySem.SeqAt
set_option maxRecDepth 100000
set_option maxHeartbeats 1000000
namespace Mine
variable {c : Cx} {A : Around} {s : Shared} {T : Gh} {X : Addr → Prop} {env : Env} {sc : Scope} {σ : Sig}

noncomputable def ownN (sc : Scope) (y : Str) : Prop := sc.names.lookup y = some .local ∨ sc.names.lookup y = some .cell
noncomputable def KeepN (env : Env) (x : Str) (s s' : Shared) : Prop := ∀ y u, y ≠ x → Bound s.heap env y u → Bound s'.heap env y u
theorem store_keep {x : Str} {d : D} {v : Value} {Q : Unit → Shared → Prop} {E : Value → Shared → Prop} (g : Ok c s T) (F : FrameOK s.heap T env sc σ X) (hx : stOk sc x = true) (hv : Rp s.heap T X d v)
    (h : ∀ s', StepG c (EnvW env sc) none s T s' T → FrameOK s'.heap T env sc (Sig.set σ x d) X → KeepN env x s s' → Bound s'.heap env x v → Q () s') : wpAny (model c.prog c.w) A (storeName env x v) Q E s := by
  have hP : ∀ b o, s.heap.get? b = some o → (∃ es ep, o.data = .dict es ep) ∨ (∃ v, o.data = .cell v) → b ≠ c.P := fun b o e hd q => by
    obtain ⟨ps, hP, _⟩ := g.gd.tab
    subst q; rw [hP] at e; cases e
    rcases hd with ⟨_, _, q⟩ | ⟨_, q⟩ <;> cases q
  have hsoft := F.soft
  simp only [stOk, Bool.or_eq_true, beq_iff_eq] at hx
  rcases hx with hx | hx
  · have hk := F.eok.loc x hx
    obtain ⟨m, hn⟩ := F.ns
    obtain ⟨o, es, ep, e, hd, hr⟩ := id hn
    refine wpAny_storeName_local hk hn (fun h' hn' hs' => ?_) (by rw [F.eok.kind]; rfl)
    have st : StepG c (EnvW env sc) none s T { s with heap := h', toks := s.toks + 1 } T := StepG.mut e (Harm.ns (hP _ _ e (.inl ⟨es, ep, hd⟩)) hd F.eok.low) (.inl rfl) (fun b o' hb e' => hs'.extBut b o' hb e') (Nat.le_succ _)
    have st1 : StepG c (fun b => b = env.locals) none s T { s with heap := h', toks := s.toks + 1 } T := StepG.mut e (Harm.ns (hP _ _ e (.inl ⟨es, ep, hd⟩)) hd F.eok.low) rfl (fun b o' hb e' => hs'.extBut b o' hb e') (Nat.le_succ _)
    have hne : ∀ f a, env.cells.lookup f = some a → ¬ (a = env.locals) := fun f a ha q => by
      obtain ⟨v, o', e', hd'⟩ := F.cells f a ha
      rw [q, e] at e'; cases e'; rw [hd] at hd'; cases hd'
    have keep : ∀ n v', n ≠ x → Bound s.heap env n v' → Bound h' env n v' := fun n v' q h1 => by
      rcases h1 with ⟨q1, m', q2, q3⟩ | ⟨q1, a, q2, q3⟩
      · refine .inl ⟨q1, _, hn', ?_⟩
        rw [if_neg q]
        obtain ⟨o2, es2, ep2, e2, hd2, _, hr2⟩ := q2
        rw [e] at e2; cases e2; rw [hd] at hd2; cases hd2
        rw [← hr.2, hr2]; exact q3
      · exact .inr ⟨q1, a, q2, IsCell.keep g.gd st1 q3 (hne n a q2)⟩
    refine h _ st ⟨F.eok, ⟨_, hn'⟩, fun f a ha => ?_, fun n d' e' => ?_⟩ (fun y u hy hb => keep y u hy hb) (.inl ⟨hk, _, hn', by simp⟩)
    · obtain ⟨v, hc⟩ := F.cells f a ha
      exact ⟨v, IsCell.keep g.gd st1 hc (hne f a ha)⟩
    · unfold Sig.set at e'
      split at e'
      · rename_i q; subst q; cases e'
        exact ⟨v, .inl ⟨hk, _, hn', by simp⟩, st.rp g.gd hsoft hv⟩
      · rename_i q
        obtain ⟨v', h1, h2⟩ := F.has n d' e'
        exact ⟨v', keep n v' q h1, st.rp g.gd hsoft h2⟩
  · have hk := F.eok.cel x hx
    obtain ⟨a, ha⟩ := (F.eok.ce x (.inl hx)).2
    obtain ⟨v₀, hc⟩ := F.cells x a ha
    obtain ⟨o, e, hd⟩ := id hc
    refine wpAny_storeName_cell F.eok.kind hk ha hc fun h' hc' hs' => ?_
    have st : StepG c (EnvW env sc) none s T { s with heap := h' } T := StepG.mut e (Harm.cell (hP _ _ e (.inr ⟨_, hd⟩)) hd) (.inr ⟨x, hx, ha⟩) (fun b o' hb e' => hs'.extBut b o' hb e') (Nat.le_refl _)
    have st1 : StepG c (fun b => b = a) none s T { s with heap := h' } T := StepG.mut e (Harm.cell (hP _ _ e (.inr ⟨_, hd⟩)) hd) rfl (fun b o' hb e' => hs'.extBut b o' hb e') (Nat.le_refl _)
    have hne : ¬ (env.locals = a) := fun q => by
      obtain ⟨m, o', es, ep, e', hd', _⟩ := F.ns
      rw [q, e] at e'; cases e'; rw [hd] at hd'; cases hd'
    have keep : ∀ n v', n ≠ x → Bound s.heap env n v' → Bound h' env n v' := fun n v' q h1 => by
      rcases h1 with ⟨q1, m', q2, q3⟩ | ⟨q1, b, q2, q3⟩
      · exact .inl ⟨q1, m', Ns.keep g.gd st1 q2 hne, q3⟩
      · exact .inr ⟨q1, b, q2, IsCell.keep g.gd st1 q3 (fun r => q (F.eok.apart n x a (r ▸ q2) ha))⟩
    refine h _ st ⟨F.eok, let ⟨m, hn⟩ := F.ns; ⟨m, Ns.keep g.gd st1 hn hne⟩, fun f b hb => ?_, fun n d' e' => ?_⟩ (fun y u hy hb => keep y u hy hb) (.inr ⟨.inl hk, a, ha, hc'⟩)
    · by_cases q : b = a
      · subst q; exact ⟨_, hc'⟩
      · obtain ⟨v, hc⟩ := F.cells f b hb
        exact ⟨v, IsCell.keep g.gd st1 hc q⟩
    · unfold Sig.set at e'
      split at e'
      · rename_i q; subst q; cases e'
        exact ⟨v, .inr ⟨.inl hk, a, ha, hc'⟩, st.rp g.gd hsoft hv⟩
      · rename_i q
        obtain ⟨v', h1, h2⟩ := F.has n d' e'
        exact ⟨v', keep n v' q h1, st.rp g.gd hsoft h2⟩

noncomputable def notComp (e : Expr) : Bool := !(isComp e)
set_option tactic.hygienic false
theorem asg_core {x : Str} {px pos : Pos} {value : Expr} {Q : Flow → Shared → Prop} (hv : notComp value = true)
    (h : wpAny (model c.prog c.w) A (eval value env) (fun v s₁ => wpAny (model c.prog c.w) A (storeName env x v) (fun zz s₂ => Q .next s₂) noE s₁) noE s) : wpAny (model c.prog c.w) A (exec (.Assign [.Name x px] value pos) env) Q noE s := by
  rw [arm_exec_Assign]
  have hb : swapsWith value (some (.Name x px)) pos.line env = pure false := by
    obtain ⟨b, hb, hbt⟩ := swaps_pure (env := env) value (.Name x px) pos.line
    cases b with
    | false => exact hb
    | true =>
      obtain ⟨elt, gens, scope, p, y, py, q | ⟨_, _, _, _, q | ⟨_, _, _, _, _, q⟩⟩⟩ := hbt rfl
      · rw [q.1] at hv; cases hv
      · rw [q] at hv; cases hv
      · rw [q] at hv; cases hv
  refine wpAny_bind (wpAny_standAt (wpAny_bind (wpAny_of_eq (a := false) hb ?_)))
  rw [if_neg (by simp)]
  refine wpAny_bind (wpAny_mono h (fun v s₁ h₁ => ?_) fun zz zz e => e)
  refine wpAny_bind (wpAny_of_eq (swapped_none rfl (.inl ⟨x, px, rfl⟩)) ?_)
  have he : (assignEach [.Name x px] env).map (·.2) = [assign (.Name x px) env] := rfl
  rw [he]
  show wpAny _ A (assign (.Name x px) env v >>= fun zz => pure Flow.next) _ _ s₁
  exact wpAny_bind (wpAny_assign_Name (wpAny_mono h₁ (fun zz s₂ q => wpAny_pure q) fun zz zz e => e))

structure Acc (env : Env) (x : Str) (a : Addr) (s : Shared) (T : Gh) (X : Addr → Prop) (ds : List D) : Prop where
  b : Bound s.heap env x (.ref a)
  l : ∃ vs, s.heap.PlainList a vs.toArray ∧ RpL s.heap T X ds vs
theorem PlainList.step {a : Addr} {vs : Array Value} {s' : Shared} {T' : Gh} (g : Gd c s.heap) (x : Step c s T s' T') (h : s.heap.PlainList a vs) : s'.heap.PlainList a vs :=
  let ⟨n, e⟩ := h; ⟨n, x.keep a _ (g.notP e (by simp)) e⟩
theorem Acc.step {x : Str} {a : Addr} {ds : List D} {s' : Shared} {T' : Gh} (g : Gd c s.heap) (st : Step c s T s' T') (h : Acc env x a s T X ds) : Acc env x a s' T' X ds :=
  ⟨h.b.step g st, let ⟨vs, h1, h2⟩ := h.l; ⟨vs, PlainList.step g st h1, st.rpL g h2⟩⟩
theorem Acc.store {x y : Str} {a : Addr} {ds : List D} {s' : Shared} {T' : Gh} (g : Gd c s.heap) (F : FrameOK s.heap T env sc σ X) (st : StepG c (EnvW env sc) none s T s' T') (k : KeepN env y s s') (hxy : x ≠ y) (h : Acc env x a s T X ds) : Acc env x a s' T' X ds := by
  obtain ⟨vs, ⟨n, e⟩, h2⟩ := h.l
  refine ⟨k x _ hxy h.b, vs, ⟨n, st.keep a _ (g.notP e (by simp)) (fun w => ?_) e⟩, st.rpL g F.soft h2⟩
  obtain ⟨o, e', hn⟩ := F.notSeq a w.a
  rw [e] at e'; cases e'; exact hn _ _ rfl
theorem asg_acc {f : Expr → Option D} (E : EvS c A env sc σ X f) {x y : Str} {a : Addr} {ds : List D} {px pos : Pos} {value : Expr} {d : D} (hv : notComp value = true) (hx : stOk sc x = true) (hyx : y ≠ x) (g : Ok c s T) (hX : Al c s.heap X) (F : FrameOK s.heap T env sc σ X)
    (h1 : f value = some d) (h : Acc env y a s T X ds) : wpAny (model c.prog c.w) A (exec (.Assign [.Name x px] value pos) env) (fun fl s' => fl = .next ∧ ∃ T', StepG c (EnvW env sc) none s T s' T' ∧ FrameOK s'.heap T' env sc (Sig.set σ x d) X ∧ Acc env y a s' T' X ds) noE s := by
  refine asg_core hv (bindR g (E.ok _ _ _ _ h1 g hX F) fun v s₁ T₁ g₁ st₁ r₁ => ?_)
  exact store_keep g₁ (F.step g.gd st₁) hx r₁ fun s₂ st₂ F₂ k zz => ⟨rfl, T₁, st₁.g.trans st₂, F₂, (h.step g.gd st₁).store g₁.gd (F.step g.gd st₁) st₂ k hyx⟩
theorem FrameOK.more {h : Heap} {X' : Addr → Prop} (F : FrameOK h T env sc σ X) (hX : ∀ b, X' b → X b ∨ h.get? b = none) : FrameOK h T env sc σ X' :=
  ⟨F.eok, F.ns, F.cells, fun x d e => let ⟨v, h1, h2⟩ := F.has x d e; ⟨v, h1, h2.more hX⟩⟩
theorem asg_nil {x : Str} {px p pos : Pos} (hx : stOk sc x = true) (hσ : σ x = none) (g : Ok c s T) (F : FrameOK s.heap T env sc σ fun zz => False) :
    wpAny (model c.prog c.w) A (exec (.Assign [.Name x px] (.List [] p) pos) env) (fun fl s' => fl = .next ∧ ∃ a, s.heap.get? a = none ∧ Al c s'.heap (fun b => b = a) ∧ StepG c (EnvW env sc) none s T s' T ∧ FrameOK s'.heap T env sc σ (fun b => b = a) ∧ Acc env x a s' T (fun b => b = a) []) noE s := by
  have hal : Al c s.heap (fun zz => False) := fun zz q => q.elim
  refine asg_core rfl ?_
  refine wpAny_List (Calls.spliced_nil ?_)
  refine ⟨by show (0 : Nat) ≤ _; omega, ?_⟩
  have st₁ : Step c s T { s with heap := s.heap.push { cls := .type "list", data := .seq #[] } } T := Step.alloc _
  have g₁ := st₁.ok g
  have hfr : s.heap.get? s.heap.objs.size = none := Heap.get?_none_of_le (Nat.le_refl _)
  have F₁ : FrameOK (s.heap.push { cls := .type "list", data := .seq #[] }) T env sc σ (fun b => b = s.heap.objs.size) := (F.more (X' := fun b => b = s.heap.objs.size) fun b q => .inr (q ▸ hfr)).step g.gd st₁
  have hl : (s.heap.push { cls := .type "list", data := .seq #[] }).get? s.heap.objs.size = some { cls := .type "list", data := .seq #[] } := Heap.get?_push_size _ rfl
  have hP : s.heap.objs.size ≠ c.P := g₁.gd.notP hl (by simp)
  have F₀ := F.step g.gd st₁
  have hv : Rp (s.heap.push { cls := .type "list", data := .seq #[] }) T (fun zz => False) (.list []) (.ref s.heap.objs.size) := by
    simp only [Rp, RpL]
    exact ⟨Nat.zero_le _, _, [], rfl, fun q => q, ⟨0, hl⟩, rfl⟩
  refine store_keep (X := fun zz => False) g₁ F₀ hx hv fun s₂ st₂ F₂ k hb => ⟨rfl, s.heap.objs.size, hfr, ?_, st₁.g.trans st₂, ?_, ?_⟩
  · intro b hb
    subst hb
    refine ⟨hP, _, st₂.keep _ _ hP (fun w => ?_) hl⟩
    obtain ⟨o, e', hn⟩ := F₀.notSeq _ w.a
    have e' : (s.heap.push { cls := .type "list", data := .seq #[] }).get? s.heap.objs.size = some o := e'
    rw [hl] at e'; cases e'; exact hn _ _ rfl
  · refine ⟨F₂.eok, F₂.ns, F₂.cells, fun n d e => ?_⟩
    obtain ⟨v, h1, h2⟩ := F₁.has n d e
    exact ⟨v, k n v (fun q => by rw [q, hσ] at e; cases e) h1, st₂.rp g₁.gd F₁.soft h2⟩
  · refine ⟨hb, [], ⟨0, st₂.keep _ _ hP (fun w => ?_) hl⟩, by simp only [RpL]⟩
    obtain ⟨o, e', hn⟩ := F₀.notSeq _ w.a
    have e' : (s.heap.push { cls := .type "list", data := .seq #[] }).get? s.heap.objs.size = some o := e'
    rw [hl] at e'; cases e'; exact hn _ _ rfl
set_option tactic.hygienic true
theorem FrameOK.close {x : Str} {a : Addr} {ds : List D} (F : FrameOK s.heap T env sc σ (fun b => b = a)) (h : Acc env x a s T (fun b => b = a) ds) (hl : ds.length ≤ big) : FrameOK s.heap T env sc (Sig.set σ x (.list ds)) fun zz => False := by
  obtain ⟨vs, h1, h2⟩ := h.l
  have ex : ∀ {d : D} {v : Value}, Rp s.heap T (fun b => b = a) d v → Rp s.heap T (fun zz => False) d v := fun r => r.ext (fun zz zz e => e) fun b o zz e zz zz => ⟨fun q => q, e⟩
  refine ⟨F.eok, F.ns, F.cells, fun n d e => ?_⟩
  unfold Sig.set at e
  split at e
  · rename_i q; subst q; cases e
    refine ⟨_, h.b, ?_⟩
    simp only [Rp]
    exact ⟨hl, a, vs, rfl, fun q => q, h1, h2.ext (fun zz zz e => e) fun b o zz e zz zz => ⟨fun q => q, e⟩⟩
  · obtain ⟨v, q1, q2⟩ := F.has n d e
    exact ⟨v, q1, ex q2⟩
set_option tactic.hygienic false
theorem bound_load {x : Str} {pos : Pos} {v : Value} {Q : Value → Shared → Prop} (F : EnvOK env sc) (h : Bound s.heap env x v) (hd : (x == ("__debug__" : Str) || x == ("__classdict__" : Str)) = false) (hQ : Q v s) :
    wpAny (model c.prog c.w) A (eval (.Name x pos) env) Q noE s := by
  rw [Bool.or_eq_false_iff] at hd
  refine wpAny_Name ?_ hd.1
  rcases h with ⟨h1, m, h2, h3⟩ | ⟨h1 | h1, a, h2, h3⟩
  · exact wpAny_loadName_local F.kind h1 h2 h3 hQ
  · exact wpAny_loadName_cell F.kind h1 h2 h3 hQ
  · exact wpAny_loadName_free F.kind h1 h2 h3 hQ hd.2
theorem Bound.stepG {x : Str} {v : Value} {s' : Shared} {T' : Gh} {W : Addr → Prop} {gi : Option Nat} (g : Gd c s.heap) (F : FrameOK s.heap T env sc σ X) (st : StepG c W gi s T s' T') (hw : ∀ b, EnvA env b → ¬ W b) (h : Bound s.heap env x v) : Bound s'.heap env x v := by
  rcases h with ⟨q1, m, q2, q3⟩ | ⟨q1, a, q2, q3⟩
  · exact .inl ⟨q1, m, Ns.keep g st q2 (hw _ (.inl rfl)), q3⟩
  · exact .inr ⟨q1, a, q2, IsCell.keep g st q3 (hw _ (.inr ⟨x, q2⟩))⟩
theorem append_acc {f : Expr → Option D} (E : EvS c A env sc σ X f) {x : Str} {a : Addr} {ds : List D} {px pa pc ps : Pos} {e : Expr} {d : D} (hx : (x == ("__debug__" : Str) || x == ("__classdict__" : Str)) = false) (hline : (pa.endLine == pc.line) = true) (hX' : X a) (g : Ok c s T) (hX : Al c s.heap X) (F : FrameOK s.heap T env sc σ X)
    (h1 : f e = some d) (h : Acc env x a s T X ds) (hsz : ds.length ≤ 1000) : wpAny (model c.prog c.w) A (exec (.Expr (.Call (.Attribute (.Name x px) "append" pa) [e] [] pc) ps) env) (fun fl s' => fl = .next ∧ ∃ T', StepG c (fun b => b = a) none s T s' T' ∧ FrameOK s'.heap T' env sc σ X ∧ Acc env x a s' T' X (ds ++ [d])) noE s := by
  have hint : interactive env = false := by unfold interactive; rw [F.eok.kind]; rfl
  refine wpAny_Expr_any ?_ hint rfl
  refine Call_method1 (base_simple rfl) (star1 (E.plain _ _ h1)) hline ?_
  refine bound_load F.eok h.b hx ?_
  obtain ⟨vs, ⟨n, e1⟩, h2⟩ := h.l
  refine ⟨"list", "list.append", PySem.F.plainAttrs_list, PySem.F.slot_list_append, PySem.F.type_list_append, ⟨_, e1, rfl⟩, fun b q => by cases q; exact ⟨_, e1, rfl⟩, ?_⟩
  refine Calls.callWith_builtin rfl (Calls.evalArgs_plain (Calls.spliced_cons (bindR g (E.ok _ _ _ _ h1 g hX F) fun v s₁ T₁ g₁ st₁ r₁ => Calls.spliced_nil ?_)))
  have hP : a ≠ c.P := g.gd.notP e1 (by simp)
  have e2 := st₁.keep a _ hP e1
  have F₁ := F.step g.gd st₁
  have hnE : ∀ b, EnvA env b → ¬ (b = a) := fun b hb q => by
    obtain ⟨o, e', hn⟩ := F₁.notSeq b hb
    rw [q, e2] at e'; cases e'; exact hn _ _ rfl
  refine append_at (hsz := by rw [List.size_toArray, h2.length]; have := big_le; unfold big at this; omega) e2 fun h' hs ho' => ?_
  have stm : StepG c (fun b => b = a) none s₁ T₁ { s₁ with heap := h' } T₁ := StepG.mut e2 (Harm.seq hP rfl) rfl (fun b o' hb e' => hs.extBut b o' hb e') (Nat.le_refl _)
  have soft : Soft s₁.heap (fun b => b = a) X := fun b o w zz => .inl (w ▸ hX')
  refine ⟨rfl, T₁, st₁.g.trans stm, F₁.stepG g₁.gd stm soft hnE, (h.b.step g.gd st₁).stepG g₁.gd F₁ stm hnE, vs ++ [v], ⟨n + 1, ?_⟩, ?_⟩
  · rw [ho']; simp
  · exact (stm.rpL g₁.gd soft (st₁.rpL g.gd h2)).append (by simp only [RpL]; exact ⟨v, [], rfl, stm.rp g₁.gd soft r₁, rfl⟩)
end Mine
end

section
open PySem PySem.W PyProof.Rows
set_option maxRecDepth 100000
set_option maxHeartbeats 1000000
namespace Mine

noncomputable def bsOf : Nat → List Tm → List Nat
  | a, [] => [a]
  | a, t :: ts => a :: bsOf (a + t.size) ts
noncomputable def NTs : Nat → List Tm → List Nd
  | _, [] => []
  | a, t :: ts => NT a t ++ NTs (a + t.size) ts
noncomputable def tot : List Tm → Nat
  | [] => 0
  | t :: ts => t.size + tot ts
noncomputable def merge (f : Nat) : Nat → List Tm → List Tm
  | 0, t :: u :: r => .nd f t u :: r
  | j + 1, t :: r => t :: merge f j r
  | _, ts => ts
set_option tactic.hygienic false
theorem bsOf_len : ∀ (ts : List Tm) (a : Nat), (bsOf a ts).length = ts.length + 1
  | [], _ => rfl
  | t :: ts, a => by simp [bsOf, bsOf_len ts]
theorem bsOf_le : ∀ (ts : List Tm) (a : Nat), ∀ x ∈ bsOf a ts, x ≤ a + tot ts
  | [], a, x, h => by simp [bsOf] at h; simp [tot, h]
  | t :: ts, a, x, h => by
    simp only [bsOf, List.mem_cons] at h
    simp only [tot]
    rcases h with rfl | h
    · omega
    · have := bsOf_le ts _ x h; omega
theorem merge_bs (f : Nat) : ∀ (j : Nat) (ts : List Tm) (a : Nat), j + 2 ≤ ts.length → bsOf a (merge f j ts) = (bsOf a ts).take (j + 1) ++ (bsOf a ts).drop (j + 2)
  | 0, t :: u :: r, a, _ => by simp [merge, bsOf, Tm.size, Nat.add_assoc]
  | j + 1, t :: r, a, h => by
    simp only [List.length_cons] at h
    simp only [merge, bsOf]
    rw [merge_bs f j r (a + t.size) (by omega)]
    simp
  | 0, [], a, h => by simp at h
  | 0, [t], a, h => by simp at h
  | j + 1, [], a, h => by simp at h
theorem merge_len (f : Nat) : ∀ (j : Nat) (ts : List Tm), j + 2 ≤ ts.length → (merge f j ts).length + 1 = ts.length
  | 0, t :: u :: r, _ => by simp [merge]
  | j + 1, t :: r, h => by
    simp only [List.length_cons] at h
    simp [merge, merge_len f j r (by omega)]
  | 0, [], h => by simp at h
  | 0, [t], h => by simp at h
  | j + 1, [], h => by simp at h
theorem merge_tot (f : Nat) : ∀ (j : Nat) (ts : List Tm), tot (merge f j ts) = tot ts
  | 0, t :: u :: r => by simp [merge, tot, Tm.size, Nat.add_assoc]
  | j + 1, t :: r => by simp [merge, tot, merge_tot f j r]
  | 0, [] => rfl
  | 0, [t] => rfl
  | j + 1, [] => rfl
theorem merge_good (f : Nat) (hf : f = 1 ∨ f = 2) : ∀ (j : Nat) (ts : List Tm), (∀ t ∈ ts, t.good) → ∀ t ∈ merge f j ts, t.good
  | 0, t :: u :: r, h, x, hx => by
    simp only [merge, List.mem_cons] at hx
    rcases hx with rfl | hx
    · exact ⟨hf, h t (by simp), h u (by simp)⟩
    · exact h x (by simp [hx])
  | j + 1, t :: r, h, x, hx => by
    simp only [merge, List.mem_cons] at hx
    rcases hx with rfl | hx
    · exact h x (by simp)
    · exact merge_good f hf j r (fun y hy => h y (by simp [hy])) x hx
  | 0, [], h, x, hx => h x hx
  | 0, [t], h, x, hx => h x hx
  | j + 1, [], h, x, hx => h x hx
theorem merge_nodes (f : Nat) : ∀ (j : Nat) (ts : List Tm) (a : Nat), j + 2 ≤ ts.length → (NTs a (merge f j ts)).Perm (⟨(bsOf a ts).getD j 0, (bsOf a ts).getD (j + 1) 0, (bsOf a ts).getD (j + 2) 0, f⟩ :: NTs a ts)
  | 0, t :: u :: r, a, _ => by
    have e : (bsOf (a + t.size + u.size) r).getD 0 0 = a + t.size + u.size := by cases r <;> rfl
    simp only [merge, NTs, bsOf, NT, Tm.size]
    have : ((a :: (a + t.size) :: bsOf (a + t.size + u.size) r).getD 0 0) = a := rfl
    rw [this]
    have : ((a :: (a + t.size) :: bsOf (a + t.size + u.size) r).getD 1 0) = a + t.size := rfl
    rw [show 0 + 1 = 1 from rfl, this]
    have : ((a :: (a + t.size) :: bsOf (a + t.size + u.size) r).getD 2 0) = a + t.size + u.size := e
    rw [show 0 + 2 = 2 from rfl, this]
    simp only [List.cons_append, List.append_assoc, Nat.add_assoc]
    exact List.Perm.refl _
  | j + 1, t :: r, a, h => by
    simp only [List.length_cons] at h
    have ih := merge_nodes f j r (a + t.size) (by omega)
    simp only [merge, NTs, bsOf]
    have e : ∀ i, (a :: bsOf (a + t.size) r).getD (i + 1) 0 = (bsOf (a + t.size) r).getD i 0 := fun i => rfl
    rw [e j, e (j + 1), e (j + 2)]
    exact (ih.append_left _).trans List.perm_middle
  | 0, [], a, h => by simp at h
  | 0, [t], a, h => by simp at h
  | j + 1, [], a, h => by simp at h
theorem bs_start : ∀ (k a : Nat), bsOf a (List.replicate k .lf) = List.range' a (k + 1)
  | 0, a => rfl
  | k + 1, a => by
    rw [List.replicate_succ, bsOf, bs_start k, List.range'_succ (n := k + 1)]; rfl
theorem nts_start : ∀ (k a : Nat), NTs a (List.replicate k .lf) = []
  | 0, a => rfl
  | k + 1, a => by rw [List.replicate_succ, NTs, nts_start k]; rfl
theorem tot_start : ∀ k : Nat, tot (List.replicate k .lf) = k
  | 0 => rfl
  | k + 1 => by rw [List.replicate_succ, tot, tot_start k]; simp [Tm.size]; omega

noncomputable def lwWhile : Stmt := lw 4
noncomputable def whT : Expr := sx lwWhile 0
noncomputable def whB : List Stmt := sB lwWhile
noncomputable def lF (k : Nat) (R : Int) (bs : List Nat) : Fr2 := [("n", iD k), ("rest", .int R), ("borders", rowD bs)]
noncomputable def lFp (k : Nat) (R : Int) (bs : List Nat) (p : Nat) : Fr2 := [("n", iD k), ("rest", .int R), ("borders", rowD bs), ("p", iD p)]
noncomputable def lB (l : Nat) : Int := (l : Int) - 2
variable {M : Nat} {k : Nat} {R : Int} {bs : List Nat} {p : Nat}
theorem len_row (bs : List Nat) : bltD "len" [rowD bs] = some (iD bs.length) := by
  show some (D.int ((bs.map iD).length : Int)) = _
  rw [List.length_map]; rfl
theorem wh_test : tr (KK M) 60 lwD.scope (Sg (lF k R bs)) whT = some (decide (2 < bs.length)) := by
  refine tr_cmp (x := iD bs.length) (y := .int 2) rfl (by decide) (ev_blt [rowD bs] rfl rfl rfl rfl (seq1 rfl) (len_row bs)) rfl ?_
  show some (decide ((bs.length : Int) > 2)) = _
  congr 1
  rw [Bool.eq_iff_iff, decide_eq_true_eq, decide_eq_true_eq]; omega
theorem mod_D (R q : Int) (hq : q ≠ 0) : binD .Mod (.int R) (.int q) = some (.int (R.fmod q)) := by
  show (if (q == 0) = true then none else some (D.int (R.fmod q))) = _
  rw [if_neg (by simpa using hq)]
theorem div_D (R q : Int) (hq : q ≠ 0) (hs : smallI q = true) : binD .FloorDiv (.int R) (.int q) = some (.int (R.fdiv q)) := by
  show (if (q == 0 || !(smallI q)) = true then none else some (D.int (R.fdiv q))) = _
  rw [if_neg (by rw [hs]; simpa using hq)]
noncomputable def pOf (R : Int) (l : Nat) : Nat := 1 + (R.fmod ((l : Int) - 2)).toNat
theorem pOf_rng (R : Int) (l : Nat) (h : 2 < l) : 1 ≤ pOf R l ∧ pOf R l + 2 ≤ l ∧ (1 : Int) + R.fmod ((l : Int) - 2) = (pOf R l : Int) := by
  have h1 : 0 ≤ R.fmod ((l : Int) - 2) := Int.fmod_nonneg_of_pos _ (by omega)
  have h2 : R.fmod ((l : Int) - 2) < (l : Int) - 2 := Int.fmod_lt_of_pos _ (by omega)
  unfold pOf
  omega
noncomputable def fOf (R : Int) : Nat := 1 + (R.fmod 2).toNat
theorem fOf_rng (R : Int) : (fOf R = 1 ∨ fOf R = 2) ∧ (1 : Int) + R.fmod 2 = (fOf R : Int) := by
  have h1 : 0 ≤ R.fmod 2 := Int.fmod_nonneg_of_pos _ (by omega)
  have h2 : R.fmod 2 < 2 := Int.fmod_lt_of_pos _ (by omega)
  unfold fOf
  omega
theorem wh0 (hl : 2 < bs.length) : ev (KK M) 60 lwD.scope (Sg (lF k R bs)) (asgV (stAt whB 0)) = some (iD (pOf R bs.length)) := by
  obtain ⟨_, _, h3⟩ := pOf_rng R bs.length hl
  refine ev_bin (x := .int 1) (y := .int (R.fmod ((bs.length : Int) - 2))) rfl rfl rfl rfl (ev_bin (x := .int R) (y := .int ((bs.length : Int) - 2)) rfl rfl rfl rfl (ev_bin (x := iD bs.length) (y := .int 2) rfl rfl rfl (ev_blt [rowD bs] rfl rfl rfl rfl (seq1 rfl) (len_row bs)) rfl rfl) (mod_D _ _ (by omega))) ?_
  show some (D.int (1 + R.fmod ((bs.length : Int) - 2))) = _
  rw [h3]; rfl
theorem wh1 (hl : 2 < bs.length) (hl2 : bs.length ≤ 100) : ev (KK M) 60 lwD.scope (Sg (lFp k R bs p)) (asgV (stAt whB 1)) = some (.int (R.fdiv ((bs.length : Int) - 2))) := by
  refine ev_bin (x := .int R) (y := .int ((bs.length : Int) - 2)) rfl rfl rfl rfl (ev_bin (x := iD bs.length) (y := .int 2) rfl rfl rfl (ev_blt [rowD bs] rfl rfl rfl rfl (seq1 rfl) (len_row bs)) rfl rfl) (div_D _ _ (by omega) ?_)
  have : ((bs.length : Int) - 2) = ((bs.length - 2 : Nat) : Int) := by omega
  rw [this]
  exact small_nat _ (by omega)
noncomputable def whI : Expr := kid (sx (stAt whB 2) 0) 1
theorem idx_rowI (rs : List Nat) (i : Nat) (z : Int) (hz : z = (i : Int)) (h : i < rs.length) : idxD (rowD rs) (.int z) = some (iD (rs.getD i 0)) := by
  rw [hz]; exact idx_row rs i h
theorem seq4 {f : Expr → Option D} {a b c e : Expr} {d1 d2 d3 d4 : D} (h : f a = some d1) (h2 : f b = some d2) (h3 : f c = some d3) (h4 : f e = some d4) : seqM f [a, b, c, e] = some [d1, d2, d3, d4] := by simp [seqM, h, h2, h3, h4]
theorem wh2 (h1 : 1 ≤ p) (h2 : p + 2 ≤ bs.length) : ev (KK M) 60 lwD.scope (Sg (lFp k R bs p)) whI = some (nodeD ⟨bs.getD (p - 1) 0, bs.getD p 0, bs.getD (p + 1) 0, fOf R⟩) := by
  refine ev_list (ds := [iD (bs.getD (p - 1) 0), iD (bs.getD p 0), iD (bs.getD (p + 1) 0), iD (fOf R)]) rfl ?_ (by simp)
  have e1 : ev (KK M) 59 lwD.scope (Sg (lFp k R bs p)) (kid whI 0) = some (iD (bs.getD (p - 1) 0)) :=
    ev_sub (x := rowD bs) (y := .int ((p : Int) - 1)) rfl rfl rfl (ev_bin (x := iD p) (y := .int 1) rfl rfl rfl rfl rfl rfl) (idx_rowI bs (p - 1) _ (by omega) (by omega))
  have e2 : ev (KK M) 59 lwD.scope (Sg (lFp k R bs p)) (kid whI 1) = some (iD (bs.getD p 0)) :=
    ev_sub (x := rowD bs) (y := iD p) rfl rfl rfl rfl (idx_row bs p (by omega))
  have e3 : ev (KK M) 59 lwD.scope (Sg (lFp k R bs p)) (kid whI 2) = some (iD (bs.getD (p + 1) 0)) :=
    ev_sub (x := rowD bs) (y := .int ((p : Int) + 1)) rfl rfl rfl (ev_bin (x := iD p) (y := .int 1) rfl rfl rfl rfl rfl rfl) (idx_rowI bs (p + 1) _ (by omega) (by omega))
  have e4 : ev (KK M) 59 lwD.scope (Sg (lFp k R bs p)) (kid whI 3) = some (iD (fOf R)) := by
    refine ev_bin (x := .int 1) (y := .int (R.fmod 2)) rfl rfl rfl rfl (ev_bin (x := .int R) (y := .int 2) rfl rfl rfl rfl rfl (mod_D _ _ (by omega))) ?_
    show some (D.int (1 + R.fmod 2)) = _
    rw [(fOf_rng R).2]; rfl
  exact seq4 e1 e2 e3 e4
theorem wh3 : ev (KK M) 60 lwD.scope (Sg (lFp k R bs p)) (asgV (stAt whB 3)) = some (.int (R.fdiv 2)) :=
  ev_bin (x := .int R) (y := .int 2) rfl rfl rfl rfl rfl (div_D _ _ (by omega) (small_nat 2 (by omega)))
theorem app_row (a b : List Nat) (h : a.length + b.length ≤ 1000) : binD .Add (rowD a) (rowD b) = some (rowD (a ++ b)) := by
  show listD (a.map iD ++ b.map iD) = _
  rw [← List.map_append, listD, if_pos (by rw [List.length_map, List.length_append]; unfold big; omega)]; rfl
theorem wh4 (h1 : 1 ≤ p) (h2 : p + 2 ≤ bs.length) (hl2 : bs.length ≤ 100) : ev (KK M) 60 lwD.scope (Sg (lFp k R bs p)) (asgV (stAt whB 4)) = some (rowD (bs.take p ++ bs.drop (p + 1))) := by
  refine ev_bin (x := rowD (bs.take p)) (y := rowD (bs.drop (p + 1))) rfl rfl rfl (ev_slice rfl rfl rfl (bnd_nat p (by omega) rfl) ?_) (ev_slice rfl rfl (bnd_nat (p + 1) (by omega) (ev_bin (x := iD p) (y := .int 1) rfl rfl rfl rfl rfl rfl)) rfl ?_) (app_row _ _ ?_)
  · unfold rowD; rw [List.map_take]; exact sl_to _ _
  · unfold rowD; rw [List.map_drop]; exact sl_from _ _
  · rw [List.length_take, List.length_drop]; omega
end Mine
end

section
open PySem PySem.W PyProof.Rows
set_option maxRecDepth 100000
set_option maxHeartbeats 1000000
namespace Mine
variable {K : Know} {n : Nat} {sc : Scope} {σ : Sig}

set_option tactic.hygienic false
theorem tr_lt {e l r : Expr} {p : Pos} {x y : D} {b : Bool} (he : e = .Compare l [.Lt] [r] p) (hg : glF K sc σ r = none) (h1 : ev K n sc σ l = some x) (h2 : ev K n sc σ r = some y) (h : cmpD .Lt x y = some b) : tr K (n + 1) sc σ e = some b := by
  subst he
  have : tr K (n + 1) sc σ (.Compare l [.Lt] [r] p) = (match glF K sc σ r with
      | some b => (ev K n sc σ l).bind fun a => match a with | .flt x => some (Float64.cmp x b == some Ordering.lt) | _ => none
      | none => (ev K n sc σ l).bind fun a => chainT (ev K n sc σ) a [.Lt] [r]) := rfl
  rw [this, hg]
  dsimp only
  rw [h1, Option.bind_some, chainT_1, h2]; exact h
theorem tr_chain2 {e l r q : Expr} {o1 o2 : CmpOp} {p : Pos} {x y z : D} {b1 b2 : Bool} (he : e = .Compare l [o1, o2] [r, q] p) (h1 : ev K n sc σ l = some x) (h2 : ev K n sc σ r = some y) (h3 : ev K n sc σ q = some z) (hb1 : cmpD o1 x y = some b1) (hb2 : cmpD o2 y z = some b2) : tr K (n + 1) sc σ e = some (b1 && b2) := by
  subst he
  have : tr K (n + 1) sc σ (.Compare l [o1, o2] [r, q] p) = (ev K n sc σ l).bind fun a => chainT (ev K n sc σ) a [o1, o2] [r, q] := by cases o1 <;> rfl
  rw [this, h1, Option.bind_some, chainT_2, h2, Option.bind_some, hb1, Option.bind_some]
  cases b1
  · rfl
  · simp only [if_true]
    rw [chainT_1, h3, Option.bind_some, hb2]; rfl
theorem le_I (a b : Nat) : cmpD .LtE (iD a) (iD b) = some (decide (a ≤ b)) := by
  show some (decide ((a : Int) ≤ (b : Int))) = _
  congr 1
  rw [Bool.eq_iff_iff, decide_eq_true_eq, decide_eq_true_eq]; omega
theorem lt_I (a b : Nat) : cmpD .Lt (iD a) (iD b) = some (decide (a < b)) := by
  show some (decide ((a : Int) < (b : Int))) = _
  congr 1
  rw [Bool.eq_iff_iff, decide_eq_true_eq, decide_eq_true_eq]; omega
theorem ints_iD : ∀ xs : List Nat, intsD (xs.map iD) = some (xs.map fun (x : Nat) => (x : Int))
  | [] => rfl
  | x :: xs => by
    show (intsD (xs.map iD)).map ((x : Int) :: ·) = _
    rw [ints_iD xs]; rfl
theorem sum_nats : ∀ xs : List Nat, (xs.map fun (x : Nat) => (x : Int)).sum = (xs.sum : Nat)
  | [] => rfl
  | x :: xs => by simp only [List.map_cons, List.sum_cons, sum_nats xs]; omega
theorem sum_D (xs : List Nat) : bltD "sum" [.list (xs.map iD)] = some (iD xs.sum) := by
  show (intsD (xs.map iD)).map (fun l => D.int l.sum) = _
  rw [ints_iD, Option.map_some, sum_nats]; rfl

noncomputable def l5 (k : Nat) (R : Int) (ns : List Nd) : Fr2 := [("n", iD k), ("rest", .int R), ("nodes", .list (ns.map nodeD))]
noncomputable def l6 (k : Nat) (R : Int) (ns : List Nd) (la : Nat) : Fr2 := [("n", iD k), ("rest", .int R), ("nodes", .list (ns.map nodeD)), ("last", iD la)]
noncomputable def l7 (k : Nat) (R : Int) (ns : List Nd) (la sp : Nat) : Fr2 := [("n", iD k), ("rest", .int R), ("nodes", .list (ns.map nodeD)), ("last", iD la), ("spot", iD sp)]
noncomputable def l8 (k : Nat) (R : Int) (ns : List Nd) (la sp ch : Nat) : Fr2 := [("n", iD k), ("rest", .int R), ("nodes", .list (ns.map nodeD)), ("last", iD la), ("spot", iD sp), ("change", iD ch)]
noncomputable def l9 (k : Nat) (R : Int) (ns : List Nd) (la sp ch i : Nat) : Fr2 := [("n", iD k), ("rest", .int R), ("nodes", .list (ns.map nodeD)), ("last", iD la), ("spot", iD sp), ("change", iD ch), ("i", iD i)]
noncomputable def laOf (R : Int) : Nat := (R.fmod 3).toNat
noncomputable def spOf (R : Int) (k : Nat) : Nat := ((R.fdiv 3).fmod k).toNat
noncomputable def chOf (R : Int) (k : Nat) : Nat := 1 + (((R.fdiv 3).fdiv k).fmod 2).toNat
theorem laOf_rng (R : Int) : laOf R < 3 ∧ R.fmod 3 = (laOf R : Int) := by
  have h1 : 0 ≤ R.fmod 3 := Int.fmod_nonneg_of_pos _ (by omega)
  have h2 : R.fmod 3 < 3 := Int.fmod_lt_of_pos _ (by omega)
  unfold laOf; omega
variable {M k la sp ch : Nat} {R : Int} {ns : List Nd}
theorem st5 : exL (KK M) 60 lwD.scope (l5 k R ns) (lw 5) = some (.next, l6 k R ns (laOf R)) := by
  refine x_asg (d := iD (laOf R)) rfl rfl (ev_bin (x := .int R) (y := .int 3) rfl rfl rfl rfl rfl ?_) rfl
  rw [mod_D _ _ (by omega), (laOf_rng R).2]; rfl
theorem st6 (hk : 0 < k) : exL (KK M) 60 lwD.scope (l6 k R ns la) (lw 6) = some (.next, l7 k R ns la (spOf R k)) := by
  refine x_asg (d := iD (spOf R k)) rfl rfl (ev_bin (x := .int (R.fdiv 3)) (y := iD k) rfl rfl rfl (ev_bin (x := .int R) (y := .int 3) rfl rfl rfl rfl rfl (div_D _ _ (by omega) (small_nat 3 (by omega)))) rfl ?_) rfl
  have h1 : 0 ≤ (R.fdiv 3).fmod k := Int.fmod_nonneg_of_pos _ (by omega)
  rw [iD, mod_D _ _ (by omega)]
  unfold spOf iD
  rw [Int.toNat_of_nonneg h1]
theorem st7 (hk : 0 < k) (hk2 : k ≤ 100) : exL (KK M) 60 lwD.scope (l7 k R ns la sp) (lw 7) = some (.next, l8 k R ns la sp (chOf R k)) := by
  refine x_asg (d := iD (chOf R k)) rfl rfl (ev_bin (x := .int 1) (y := .int (((R.fdiv 3).fdiv k).fmod 2)) rfl rfl rfl rfl (ev_bin (x := .int ((R.fdiv 3).fdiv k)) (y := .int 2) rfl rfl rfl (ev_bin (x := .int (R.fdiv 3)) (y := .int (k : Int)) rfl rfl rfl (ev_bin (x := .int R) (y := .int 3) rfl rfl rfl rfl rfl (div_D _ _ (by omega) (small_nat 3 (by omega)))) rfl (div_D _ _ (by omega) (small_nat k (by omega)))) rfl (mod_D _ _ (by omega))) ?_) rfl
  have h1 : 0 ≤ ((R.fdiv 3).fdiv k).fmod 2 := Int.fmod_nonneg_of_pos _ (by omega)
  have e : (1 : Int) + ((R.fdiv 3).fdiv k).fmod 2 = ((1 + (((R.fdiv 3).fdiv k).fmod 2).toNat : Nat) : Int) := by omega
  show some (D.int (1 + ((R.fdiv 3).fdiv k).fmod 2)) = some (D.int ((1 + (((R.fdiv 3).fdiv k).fmod 2).toNat : Nat) : Int))
  rw [e]
noncomputable def rwFor : Stmt := lw 9
noncomputable def rwI : Expr := kid (sx (stAt (forBody rwFor) 0) 0) 1
theorem rw_item (i : Nat) (hf : ∀ p ∈ ns, p.f = 1 ∨ p.f = 2) (hfew : ns.length ≤ 60) : ev (KK M) 60 lwD.scope (Sg (l9 k R ns la sp ch i)) rwI = some (iD ((la + wsum ns i) % 3)) := by
  refine ev_bin (x := iD (la + wsum ns i)) (y := .int 3) rfl rfl rfl (ev_bin (x := iD la) (y := iD (wsum ns i)) rfl rfl rfl rfl (ev_blt [.list (((ns.filter fun p => decide (p.a ≤ i ∧ i < p.b)).map (wgt i)).map iD)] rfl rfl rfl rfl (seq1 ?_) (sum_D _)) (add_I _ _)) rfl (mod3 _)
  refine ev_comp (ns.map nodeD) rfl rfl (it_val rfl rfl) ?_ (by rw [List.length_map, List.length_map]; exact Nat.le_trans (List.length_filter_le _ _) (by unfold big; omega))
  rw [List.map_map]
  refine compL_map nodeD (fun p => decide (p.a ≤ i ∧ i < p.b)) (iD ∘ wgt i) ns fun p hp => ?_
  have ht : ∀ b, decide (p.a ≤ i ∧ i < p.b) = b → (decide (p.a ≤ i) && decide (i < p.b)) = b := by rintro b rfl; simp
  cases h : decide (p.a ≤ i ∧ i < p.b)
  · rw [if_neg (by simp)]
    refine comp_skip rfl rfl (ifs1 ((tr_chain2 (x := iD p.a) (y := iD i) (z := iD p.b) rfl rfl rfl rfl (le_I _ _) (lt_I _ _)).trans ?_))
    rw [ht _ h]
  · rw [if_pos rfl]
    refine comp_one rfl rfl (ifs1 ((tr_chain2 (x := iD p.a) (y := iD i) (z := iD p.b) rfl rfl rfl rfl (le_I _ _) (lt_I _ _)).trans ?_)) (compG_nil ?_)
    · rw [ht _ h]
    · refine ev_if (c := decide (i < p.m)) rfl (tr_lt (x := iD i) (y := iD p.m) rfl rfl rfl rfl (lt_I _ _)) ?_
      show _ = some (iD (wgt i p))
      unfold wgt
      by_cases h2 : i < p.m
      · rw [decide_eq_true h2, if_pos h2]; rfl
      · rw [decide_eq_false h2, if_neg h2, if_neg (show ¬ (false = true) by simp)]
        refine ev_bin (x := .int 2) (y := iD p.f) rfl rfl rfl rfl rfl ?_
        rcases hf p hp with e | e <;> rw [e] <;> rfl
end Mine
end

section
open PySem PySem.W PyProof.Rows
set_option maxRecDepth 100000
set_option maxHeartbeats 1000000
namespace Mine
variable {c : Cx} {A : Around} {s : Shared} {T : Gh} {X : Addr → Prop} {env : Env} {sc : Scope} {σ : Sig} {K : Know} {n k : Nat}

noncomputable def p0 (xs : List Int) : Fr2 := [("script", .list (xs.map .int))]
noncomputable def p1 (xs : List Int) (k : Nat) : Fr2 := [("script", .list (xs.map .int)), ("n", iD k)]
noncomputable def p2 (xs : List Int) (k : Nat) (R : Int) : Fr2 := [("script", .list (xs.map .int)), ("n", iD k), ("rest", .int R)]
noncomputable def p3 (xs : List Int) (k : Nat) (R : Int) (bs : List Nat) : Fr2 := [("script", .list (xs.map .int)), ("n", iD k), ("rest", .int R), ("borders", rowD bs)]
noncomputable def kOf (xs : List Int) : Nat := 4 + (xs.take 4).length / 2
set_option tactic.hygienic false
theorem kOf_rng (xs : List Int) : kOf xs = 4 ∨ kOf xs = 5 ∨ kOf xs = 6 := by
  unfold kOf
  have : (xs.take 4).length ≤ 4 := by rw [List.length_take]; omega
  omega
variable {M : Nat} {R : Int} {xs : List Int}
theorem st0 : exL (KK M) 60 lwD.scope (p0 xs) (lw 0) = some (.next, p1 xs (kOf xs)) := by
  refine x_asg (d := iD (kOf xs)) rfl rfl (ev_bin (x := .int 4) (y := iD ((xs.take 4).length / 2)) rfl rfl rfl rfl (ev_bin (x := iD (xs.take 4).length) (y := .int 2) rfl rfl rfl (ev_blt [.list ((xs.take 4).map .int)] rfl rfl rfl rfl (seq1 (ev_slice rfl rfl rfl (bnd_nat 4 (by omega) rfl) ?_)) ?_) rfl (div2 _)) ?_) rfl
  · rw [List.map_take]; exact sl_to _ _
  · show some (D.int (((xs.take 4).map D.int).length : Int)) = _
    rw [List.length_map]; rfl
  · show some (D.int (4 + (((xs.take 4).length / 2 : Nat) : Int))) = some (D.int ((4 + (xs.take 4).length / 2 : Nat) : Int))
    rw [Int.natCast_add]; rfl
theorem ints_map : ∀ xs : List Int, intsD (xs.map .int) = some xs
  | [] => rfl
  | x :: xs => by
    show (intsD (xs.map .int)).map (x :: ·) = _
    rw [ints_map xs]; rfl
theorem st1 : exL (KK M) 60 lwD.scope (p1 xs k) (lw 1) = some (.next, p2 xs k (700 + xs.sum)) := by
  refine x_asg (d := .int (700 + xs.sum)) rfl rfl (ev_bin (x := .int 700) (y := .int xs.sum) rfl rfl rfl rfl (ev_blt [.list (xs.map .int)] rfl rfl rfl rfl (seq1 rfl) ?_) rfl) rfl
  show (intsD (xs.map .int)).map (fun l => D.int l.sum) = _
  rw [ints_map]; rfl
theorem ev_listrange {e a : Expr} {pf p1 pg p2 : Pos} {b : Int} (he : e = .Call (.Name "list" pf) [.Call (.Name "range" pg) [a] [] p1] [] p2) (hf : (("list" : Str) == "__debug__" || (σ "list").isSome || !(isGlob sc "list")) = false) (hg : isGlob sc "range" = true) (h : ev K n sc σ a = some (.int b)) (hb : smallI b = true) (hb2 : b ≤ 1000) : ev K (n + 1) sc σ e = some (.list (rngD 0 b)) := by
  subst he
  have : ev K (n + 1) sc σ (.Call (.Name "list" pf) [.Call (.Name "range" pg) [a] [] p1] [] p2) = if (("list" : Str) == "__debug__" || (σ "list").isSome || !(isGlob sc "list")) = true then none else
      (if (("range" : Str) == "range" && isGlob sc "range") = true then (ev K n sc σ a).bind fun d => (match d with
              | .int b => if (smallI b && decide (b ≤ 1000)) = true then some (.list (rngD 0 b)) else none
              | _ => none) else none) := rfl
  rw [this, hf, hg, if_neg (by simp), if_pos (by rfl), h, Option.bind_some]
  dsimp only
  rw [if_pos (by simp [hb, hb2])]
theorem st2 (hk : k ≤ 100) : exL (KK M) 60 lwD.scope (p2 xs k R) (lw 2) = some (.next, p3 xs k R (List.range' 0 (k + 1))) := by
  have e : D.list (rngD 0 ((k : Int) + 1)) = rowD (List.range' 0 (k + 1)) := by
    have : ((k : Int) + 1) = ((k + 1 : Nat) : Int) := by omega
    rw [this, rng0, List.range_eq_range']; rfl
  refine x_asg (d := rowD (List.range' 0 (k + 1))) rfl rfl ?_ rfl
  rw [← e]
  exact ev_listrange rfl rfl rfl (ev_bin (x := iD k) (y := .int 1) rfl rfl rfl rfl rfl rfl) (small_nat (k + 1) (by omega)) (by omega)

theorem exs_next {st : Stmt} {rest : List Stmt} {P : Shared → Prop} {Q : Flow → Shared → Prop} (h1 : wpAny (model c.prog c.w) A (exec st env) (fun f s' => f = .next ∧ P s') noE s) (h2 : ∀ s', P s' → wpAny (model c.prog c.w) A (execs rest env) Q noE s') :
    wpAny (model c.prog c.w) A (execs (st :: rest) env) Q noE s := by
  refine wpAny_execs_cons (wpAny_mono h1 (fun f s' h => ?_) fun zz zz e => e)
  obtain ⟨rfl, h⟩ := h
  exact h2 s' h
set_option tactic.hygienic true
theorem Sg_sub : ∀ {l1 l2 : Fr2}, (∀ p ∈ l1, getL l2 p.1 = some p.2) → ∀ x d, Sg l1 x = some d → Sg l2 x = some d
  | [], _, _, x, d, e => by simp [Sg, getL] at e
  | (y, v) :: r, l2, h, x, d, e => by
    simp only [Sg, getL] at e
    split at e
    · rename_i q; subst q; cases e
      exact h (x, v) (by simp)
    · exact Sg_sub (l1 := r) (fun p hp => h p (List.mem_cons_of_mem _ hp)) x d e
structure Wk (c : Cx) (A : Around) (env : Env) (M : Nat) : Prop where
  X : CxOK c
  hr : Room A M
  hl : LamOK c env lwD.scope
set_option tactic.hygienic false
theorem Wk.E (w : Wk c A env M) (σ : Sig) (X : Addr → Prop) (n : Nat) : EvS c A env lwD.scope σ X (ev (KK M) n lwD.scope σ) := (ev_tr w.X.blt (know_ok w.X M) (sort_ok w.X.blt M) n).1 A env lwD.scope σ X w.hr w.hl
theorem Wk.TR (w : Wk c A env M) (σ : Sig) (X : Addr → Prop) (n : Nat) : TrS c A env lwD.scope σ X (tr (KK M) n lwD.scope σ) := (ev_tr w.X.blt (know_ok w.X M) (sort_ok w.X.blt M) n).2 A env lwD.scope σ X w.hr w.hl
theorem stepL (w : Wk c A env M) {l l' : Fr2} {st : Stmt} (hex : exL (KK M) n lwD.scope l st = some (.next, l')) (g : Ok c s T) (hX : Al c s.heap X) (F : FrameOK s.heap T env lwD.scope (Sg l) X) :
    wpAny (model c.prog c.w) A (exec st env) (fun f s' => f = .next ∧ ∃ T', StepG c (EnvW env lwD.scope) none s T s' T' ∧ FrameOK s'.heap T' env lwD.scope (Sg l') X) noE s :=
  wpAny_mono ((ex_sound w.X.blt (know_ok w.X M) (sort_ok w.X.blt M) w.hr w.hl n).1 st (Sg l) .next (Sg l') s T ((ex_sim (KK M) lwD.scope n).1 st l _ hex) g hX F) (fun f s' ⟨T', h1, h2, h3⟩ => ⟨h2, T', h1, h3⟩) fun zz zz e => e
theorem asgL (w : Wk c A env M) {l : Fr2} {l' : Fr2} {st : Stmt} {x y : Str} {a : Addr} {ds : List D} {px pos : Pos} {d : D} (hst : st = .Assign [.Name x px] (asgV st) pos) (hv : notComp (asgV st) = true) (hx : stOk lwD.scope x = true) (hyx : y ≠ x)
    (h1 : ev (KK M) n lwD.scope (Sg l) (asgV st) = some d) (hl' : ins x d l = l') (g : Ok c s T) (hX : Al c s.heap X) (F : FrameOK s.heap T env lwD.scope (Sg l) X) (h : Acc env y a s T X ds) :
    wpAny (model c.prog c.w) A (exec st env) (fun fl s' => fl = .next ∧ ∃ T', StepG c (EnvW env lwD.scope) none s T s' T' ∧ FrameOK s'.heap T' env lwD.scope (Sg l') X ∧ Acc env y a s' T' X ds) noE s := by
  have := asg_acc (w.E (Sg l) X n) (px := px) (pos := pos) hv hx hyx g hX F h1 h
  rw [← hst] at this
  rw [set_Sg, hl'] at this
  exact this
noncomputable def appE (s : Stmt) : Expr := kid (sx s 0) 1
theorem appL (w : Wk c A env M) {l : Fr2} {st : Stmt} {x : Str} {a : Addr} {ds : List D} {px pa pc ps : Pos} {d : D} (hst : st = .Expr (.Call (.Attribute (.Name x px) "append" pa) [appE st] [] pc) ps) (hx : (x == ("__debug__" : Str) || x == ("__classdict__" : Str)) = false) (hline : (pa.endLine == pc.line) = true) (hX' : X a)
    (h1 : ev (KK M) n lwD.scope (Sg l) (appE st) = some d) (hsz : ds.length ≤ 1000) (g : Ok c s T) (hX : Al c s.heap X) (F : FrameOK s.heap T env lwD.scope (Sg l) X) (h : Acc env x a s T X ds) :
    wpAny (model c.prog c.w) A (exec st env) (fun fl s' => fl = .next ∧ ∃ T', StepG c (fun b => b = a) none s T s' T' ∧ FrameOK s'.heap T' env lwD.scope (Sg l) X ∧ Acc env x a s' T' X (ds ++ [d])) noE s := by
  have := append_acc (w.E (Sg l) X n) (px := px) (pa := pa) (pc := pc) (ps := ps) hx hline hX' g hX F h1 h hsz
  rw [← hst] at this
  exact this
end Mine
end

section
open PySem PySem.W PyProof.Rows
set_option maxRecDepth 100000
set_option maxHeartbeats 1000000
namespace Mine
variable {c : Cx} {A : Around} {s : Shared} {T : Gh} {X : Addr → Prop} {env : Env} {sc : Scope} {σ : Sig} {n k M : Nat}

structure WI (c : Cx) (env : Env) (a : Addr) (k : Nat) (W : Addr → Prop) (s₀ : Shared) (T₀ : Gh) (j : Nat) (s : Shared) (T : Gh) (R : Int) (ts : List Tm) (ns : List Nd) : Prop where
  j : j = ts.length
  g : Ok c s T
  al : Al c s.heap fun b => b = a
  F : FrameOK s.heap T env lwD.scope (Sg (lF k R (bsOf 0 ts))) fun b => b = a
  acc : Acc env "nodes" a s T (fun b => b = a) (ns.map nodeD)
  st : StepG c W none s₀ T₀ s T
  perm : ns.Perm (NTs 0 ts)
  good : ∀ t ∈ ts, t.good
  tot : tot ts = k
set_option tactic.hygienic false
theorem tot_len : ∀ ts : List Tm, ts.length ≤ tot ts
  | [] => Nat.le_refl _
  | t :: ts => by have := Tm.pos t; have := tot_len ts; simp only [List.length_cons, tot]; omega
theorem Acc.al {x : Str} {a : Addr} {ds : List D} (g : Gd c s.heap) (h : Acc env x a s T X ds) : Al c s.heap fun b => b = a := fun b hb => by
  subst hb
  obtain ⟨vs, ⟨n, e⟩, _⟩ := h.l
  exact ⟨g.notP e (by simp), _, e⟩
theorem wh_body : whB = [stAt whB 0, stAt whB 1, stAt whB 2, stAt whB 3, stAt whB 4] := rfl
theorem nts_len : ∀ (ts : List Tm) (a : Nat), (NTs a ts).length + ts.length = tot ts
  | [], a => rfl
  | t :: ts, a => by
    have h1 := NT_len t a
    have h2 := nts_len ts (a + t.size)
    simp only [NTs, List.length_append, List.length_cons, tot]; omega
theorem wh_turn (w : Wk c A env M) {a : Addr} {W : Addr → Prop} {s₀ : Shared} {T₀ : Gh} (hW : ∀ b, EnvW env lwD.scope b → W b) (hWa : W a) (hk : k ≤ 60) {j : Nat} {R : Int} {ts : List Tm} {ns : List Nd} (I : WI c env a k W s₀ T₀ j s T R ts ns) (hj : 2 < (bsOf 0 ts).length) :
    wpAny (model c.prog c.w) A (execs whB env) (fun f s' => f = .next ∧ ∃ T' R' ts' ns', ts'.length < j ∧ WI c env a k W s₀ T₀ ts'.length s' T' R' ts' ns') noE s := by
  obtain ⟨hjl, g, al, F, acc, st, perm, good, htot⟩ := I
  have hlen := bsOf_len ts 0
  have htl := tot_len ts
  have hl2 : (bsOf 0 ts).length ≤ 100 := by omega
  obtain ⟨q1, q2, _⟩ := pOf_rng R (bsOf 0 ts).length hj
  generalize hp : pOf R (bsOf 0 ts).length = p at *
  rw [wh_body]
  refine exs_next (asgL w (n := 60) (st := stAt whB 0) (x := "p") rfl rfl rfl (by decide) (wh0 hj) (l' := lFp k R (bsOf 0 ts) p) (by rw [hp]; rfl) g al F acc) ?_
  rintro s1 ⟨T1, st1, F1, acc1⟩
  have g1 := st1.ok g
  refine exs_next (asgL w (n := 60) (st := stAt whB 1) (x := "rest") rfl rfl rfl (by decide) (wh1 hj hl2) (l' := lFp k (R.fdiv (((bsOf 0 ts).length : Int) - 2)) (bsOf 0 ts) p) rfl g1 (acc1.al g1.gd) F1 acc1) ?_
  rintro s2 ⟨T2, st2, F2, acc2⟩
  have g2 := st2.ok g1
  generalize R.fdiv (((bsOf 0 ts).length : Int) - 2) = R1 at *
  have hnl := nts_len ts 0
  refine exs_next (appL w (n := 60) (st := stAt whB 2) (x := "nodes") (X := fun b => b = a) (ds := ns.map nodeD) rfl rfl rfl rfl (wh2 q1 q2) (by rw [List.length_map, perm.length_eq]; omega) g2 (acc2.al g2.gd) F2 acc2) ?_
  rintro s3 ⟨T3, st3, F3, acc3⟩
  have g3 := st3.ok g2
  refine exs_next (asgL w (n := 60) (st := stAt whB 3) (x := "rest") rfl rfl rfl (by decide) wh3 (l' := lFp k (R1.fdiv 2) (bsOf 0 ts) p) rfl g3 (acc3.al g3.gd) F3 acc3) ?_
  rintro s4 ⟨T4, st4, F4, acc4⟩
  have g4 := st4.ok g3
  refine exs_next (asgL w (n := 60) (st := stAt whB 4) (x := "borders") rfl rfl rfl (by decide) (wh4 q1 q2 hl2) (l' := lFp k (R1.fdiv 2) ((bsOf 0 ts).take p ++ (bsOf 0 ts).drop (p + 1)) p) rfl g4 (acc4.al g4.gd) F4 acc4) ?_
  rintro s5 ⟨T5, st5, F5, acc5⟩
  have g5 := st5.ok g4
  obtain ⟨hf, _⟩ := fOf_rng R1
  have hbs := merge_bs (fOf R1) (p - 1) ts 0 (by omega)
  rw [show p - 1 + 1 = p by omega, show p - 1 + 2 = p + 1 by omega] at hbs
  have hns := merge_nodes (fOf R1) (p - 1) ts 0 (by omega)
  rw [show p - 1 + 1 = p by omega, show p - 1 + 2 = p + 1 by omega] at hns
  have hml := merge_len (fOf R1) (p - 1) ts (by omega)
  refine wpAny_execs_nil ⟨rfl, T5, R1.fdiv 2, merge (fOf R1) (p - 1) ts, ns ++ [⟨(bsOf 0 ts).getD (p - 1) 0, (bsOf 0 ts).getD p 0, (bsOf 0 ts).getD (p + 1) 0, fOf R1⟩], by omega, rfl, g5, acc5.al g5.gd, ?_, ?_, ?_, ?_, merge_good _ hf _ _ good, by rw [merge_tot]; exact htot⟩
  · rw [hbs]
    refine F5.weak (Sg_sub ?_)
    intro q hq
    simp only [lF, List.mem_cons, List.not_mem_nil, or_false] at hq
    rcases hq with rfl | rfl | rfl <;> rfl
  · rw [List.map_append]; exact acc5
  · have e : ∀ {s s' : Shared} {T T' : Gh}, StepG c (EnvW env lwD.scope) none s T s' T' → StepG c W none s T s' T' := fun x => x.mono fun b h => .inl (hW b h)
    exact ((((st.trans (e st1)).trans (e st2)).trans (st3.mono fun b h => .inl (h ▸ hWa))).trans (e st4)).trans (e st5)
  · exact (List.perm_append_comm.trans (List.Perm.cons _ perm)).trans hns.symm
theorem wh_all (w : Wk c A env M) {a : Addr} {W : Addr → Prop} {s₀ : Shared} {T₀ : Gh} (hW : ∀ b, EnvW env lwD.scope b → W b) (hWa : W a) (hk : k ≤ 60) (hk1 : 1 ≤ k) {R : Int} {ts : List Tm} {ns : List Nd} (I : WI c env a k W s₀ T₀ ts.length s T R ts ns) :
    wpAny (model c.prog c.w) A (exec (lw 4) env) (fun f s' => f = .next ∧ ∃ T' R' t ns', WI c env a k W s₀ T₀ 1 s' T' R' [t] ns') noE s := by
  have hst : lw 4 = .While whT whB [] ((lw 4).pos) := rfl
  rw [hst]
  refine wpAny_While (codeAny_whileLoop (fun j s' => ∃ T' R' ts' ns', WI c env a k W s₀ T₀ j s' T' R' ts' ns') (fun j s' hI => ?_) ts.length ⟨T, R, ts, ns, I⟩)
  obtain ⟨T', R', ts', ns', I'⟩ := hI
  refine wpAny_mono (w.TR _ _ 60 _ _ _ _ wh_test I'.g I'.al I'.F) (fun b s₂ hb => ?_) fun zz zz e => e.elim
  obtain ⟨rfl, T₂, st₂⟩ := hb
  have g₂ := st₂.ok I'.g
  have I₂ : WI c env a k W s₀ T₀ j s₂ T₂ R' ts' ns' := ⟨I'.j, g₂, st₂.al I'.al, I'.F.step I'.g.gd st₂, I'.acc.step I'.g.gd st₂, I'.st.trans st₂.g, I'.perm, I'.good, I'.tot⟩
  by_cases h : 2 < (bsOf 0 ts').length
  · rw [decide_eq_true h]
    rw [if_pos rfl]
    refine wpAny_mono (wh_turn w hW hWa hk I₂ h) (fun f s₃ h₃ => ?_) fun zz zz e => e.elim
    obtain ⟨rfl, T₃, R₃, ts₃, ns₃, hlt, I₃⟩ := h₃
    exact ⟨ts₃.length, hlt, T₃, R₃, ts₃, ns₃, I₃⟩
  · rw [decide_eq_false h]
    rw [if_neg (by simp)]
    have hlen := bsOf_len ts' 0
    have ht := I₂.tot
    match ts', hlen, ht, I₂ with
    | [], _, ht, _ => simp [tot] at ht; omega
    | [t], _, _, I₂ =>
      obtain rfl : j = 1 := I₂.j
      exact wpAny_execs_nil ⟨rfl, T₂, R', t, ns', I₂⟩
    | t :: u :: r, hlen, _, _ => simp only [List.length_cons] at hlen; omega
end Mine
end

section
open PySem PySem.W PyProof.Rows
set_option maxRecDepth 100000
set_option maxHeartbeats 1000000
namespace Mine
variable {c : Cx} {A : Around} {s : Shared} {T : Gh} {X : Addr → Prop} {env : Env} {sc : Scope} {σ : Sig} {n k M : Nat}

set_option tactic.hygienic false
theorem Acc.gen {x : Str} {a : Addr} {ds : List D} {W : Addr → Prop} {gi : Option Nat} {s' : Shared} {T' : Gh} (g : Gd c s.heap) (F : FrameOK s.heap T env sc σ X) (st : StepG c W gi s T s' T') (hE : ∀ b, EnvA env b → ¬ W b) (ha : ¬ W a) (soft : Soft s.heap W X) (h : Acc env x a s T X ds) : Acc env x a s' T' X ds := by
  obtain ⟨vs, ⟨n, e⟩, h2⟩ := h.l
  exact ⟨h.b.stepG g F st hE, vs, ⟨n, st.keep a _ (g.notP e (by simp)) ha e⟩, st.rpL g soft h2⟩
theorem Acc.notE {x : Str} {a : Addr} {ds : List D} (F : FrameOK s.heap T env sc σ X) (h : Acc env x a s T X ds) : ∀ b, EnvA env b → ¬ (b = a) := fun b hb q => by
  obtain ⟨vs, ⟨n, e⟩, _⟩ := h.l
  obtain ⟨o, e', hn⟩ := F.notSeq b hb
  rw [q, e] at e'; cases e'; exact hn _ _ rfl
variable {R : Int} {ns : List Nd} {la sp ch : Nat}
theorem rw_all (w : Wk c A env M) {a : Addr} (hk : k ≤ 60) (hf : ∀ p ∈ ns, p.f = 1 ∨ p.f = 2) (hfew : ns.length ≤ 60) (g : Ok c s T) (F : FrameOK s.heap T env lwD.scope (Sg (l8 k R ns la sp ch)) fun b => b = a) (acc : Acc env "row" a s T (fun b => b = a) []) :
    wpAny (model c.prog c.w) A (exec (lw 9) env) (fun f s' => f = .next ∧ ∃ T', StepG c (fun b => EnvW env lwD.scope b ∨ b = a) none s T s' T' ∧ FrameOK s'.heap T' env lwD.scope (Sg (l8 k R ns la sp ch)) (fun b => b = a) ∧ Acc env "row" a s' T' (fun b => b = a) (((List.range k).map fun i => (la + wsum ns i) % 3).map iD)) noE s := by
  have hst : lw 9 = .For (.Name "i" ((sx (lw 9) 1).pos)) (sx (lw 9) 0) [stAt (forBody rwFor) 0] [] ((lw 9).pos) := rfl
  have hX : Al c s.heap fun b => b = a := acc.al g.gd
  have HI : ItS c A env lwD.scope (Sg (l8 k R ns la sp ch)) (fun b => b = a) (itE (KK M) (ev (KK M) 60 lwD.scope (Sg (l8 k R ns la sp ch))) lwD.scope) := it_ok w.X.blt (know_ok w.X M) w.hr (w.E _ _ 60)
  have hit : itE (KK M) (ev (KK M) 60 lwD.scope (Sg (l8 k R ns la sp ch))) lwD.scope (sx (lw 9) 0) = some ((List.range k).map iD) := by
    rw [← rng0]
    exact it_range1 (b := (k : Int)) rfl rfl rfl (small_nat _ (by omega))
  have hgc : genCall (sx (lw 9) 0) = false := rfl
  have hA := w.hr.handled
  rw [hst, arm_exec_For]
  generalize (sx (lw 9) 0) = it at *
  refine wpAny_bind (wpAny_standAt (wpAny_bind (wpAny_mono (HI.ok it _ s T hit g hX F) (fun xv s₁ h₁ => ?_) fun zz zz e => e)))
  refine wpAny_bind (wpAny_of_eq (folded_plain (HI.plain _ _ hit) xv) (wpAny_bind (wpAny_standAt (wpAny_bind (wpAny_holding (wpAny_mono h₁ (fun itv s₂ h₂ => ?_) fun zz zz e => e))))))
  obtain ⟨gi, hgi0, T₂, st, hI, hgi⟩ := h₂
  obtain rfl : gi = none := hgi0 hgc
  let U : Addr → Prop := fun b => EnvA env b ∨ b = a
  obtain ⟨St, I, hst2⟩ := hI (fun b => b = a) U (fun b h => .inr h) (fun b h => .inl h) fun b hb => .inr (by
    rcases hb with h | h
    · obtain ⟨o, e, hn⟩ := F.notSeq b h
      exact ⟨F.notP g.gd b h, o, e, .inr hn⟩
    · obtain ⟨hP, o, e⟩ := hX b h
      exact ⟨hP, o, e, .inl h⟩)
  have g₂ := st.ok g
  have noF : Soft s.heap (fun zz => False) (fun b => b = a) := fun b o w => w.elim
  have F₂ : FrameOK s₂.heap T₂ env lwD.scope (Sg (l8 k R ns la sp ch)) (fun b => b = a) := F.stepG g.gd st noF (fun b zz w => w)
  have acc₂ : Acc env "row" a s₂ T₂ (fun b => b = a) [] := acc.gen g.gd F st (fun b zz w => w) (fun w => w) noF
  have hfp : ∀ b, ¬ U b → ¬ EnvA env b ∧ ¬ (b = a) := fun b hb => ⟨fun h => hb (.inl h), fun h => hb (.inr h)⟩
  let wr : Addr → Prop := fun b => ¬ U b ∧ s.heap.get? b = none
  let W : Addr → Prop := fun b => EnvW env lwD.scope b ∨ b = a
  have tot : ∀ {s' T'}, StepG c (fun b => W b ∨ wr b) none s T s' T' → StepG c W none s T s' T' := fun x => x.mono fun b w => w.imp id (·.2)
  refine wpAny_runOwn (codeAny_mono (R := fun r s' => ∃ fw, r = .ok fw ∧ fw = .next ∧ ∃ T', StepG c W none s T s' T' ∧ FrameOK s'.heap T' env lwD.scope (Sg (l8 k R ns la sp ch)) (fun b => b = a) ∧ Acc env "row" a s' T' (fun b => b = a) (((List.range k).map fun i => (la + wsum ns i) % 3).map iD))
    (for_core I (fun ds' s' T' => Ok c s' T' ∧ FrameOK s'.heap T' env lwD.scope (Sg (l8 k R ns la sp ch)) (fun b => b = a) ∧ (∃ j, j ≤ k ∧ ds' = (List.range' j (k - j)).map iD ∧ Acc env "row" a s' T' (fun b => b = a) (((List.range j).map fun i => (la + wsum ns i) % 3).map iD)) ∧ StepG c (fun b => W b ∨ wr b) none s T s' T')
    (fun ds' s' T' h => ⟨h.1, let ⟨_, _, _, ac⟩ := h.2.2.1; ac.al h.1.gd, fun b => (Classical.em (U b)).symm.imp id fun q => by
      obtain ⟨_, F₁, ⟨j, _, _, ac⟩, _⟩ := h
      rcases q with q | q
      · obtain ⟨o, e, _⟩ := F₁.notSeq b q; exact ⟨o, e⟩
      · subst q
        obtain ⟨vs, ⟨n, e⟩, _⟩ := ac.l
        exact ⟨_, e⟩⟩) ?_ ?_ hst2 ⟨g₂, F₂, ⟨0, Nat.zero_le _, by rw [List.range_eq_range']; rfl, acc₂⟩, st.mono fun b w => w.elim⟩) ?_)
  · rintro d ds' s₀ T₀ s' T' v wv ⟨g₀, F₀, ⟨j, hj, hds, ac₀⟩, st₀⟩ hww hsoft stn hst' rv
    have hlt : j < k := by
      by_cases h : j < k
      · exact h
      · rw [show k - j = 0 by omega] at hds; simp [List.range'] at hds
    have e1 : k - j = (k - (j + 1)) + 1 := by omega
    rw [e1, List.range'_succ, List.map_cons] at hds
    injection hds with hd hds
    subst hd; subst hds
    have g' := stn.ok g₀
    have F' := F₀.stepG g₀.gd stn hsoft fun b ha w => (hfp b (I.sub b (hww b w))).1 ha
    have ac' := ac₀.gen g₀.gd F₀ stn (fun b ha w => (hfp b (I.sub b (hww b w))).1 ha) (fun w => (hfp a (I.sub a (hww a w))).2 rfl) hsoft
    refine wpAny_assign_Name (store_keep g' F' (d := iD j) rfl rv fun s₃ st₃ F₃ kp zz => ?_)
    have g₃ := st₃.ok g'
    have ac₃ := ac'.store g'.gd F' st₃ kp (by decide)
    have hst₃ : St _ s₃ T' := I.frame _ _ _ _ _ _ hst' g'.gd st₃ (fun b hb w => (hfp b hb).1 w.a) F'.soft
    rw [set_Sg] at F₃
    have F₃' : FrameOK s₃.heap T' env lwD.scope (Sg (l9 k R ns la sp ch j)) (fun b => b = a) := F₃
    refine exs_next (appL w (n := 60) (st := stAt (forBody rwFor) 0) (x := "row") (X := fun b => b = a) (ds := ((List.range j).map fun i => (la + wsum ns i) % 3).map iD) rfl rfl rfl rfl (rw_item j hf hfew) (by rw [List.length_map, List.length_map, List.length_range]; omega) g₃ (ac₃.al g₃.gd) F₃' ac₃) ?_
    rintro s₄ ⟨T₄, st₄, F₄, ac₄⟩
    have g₄ := st₄.ok g₃
    have soft₃ : Soft s₃.heap (fun b => b = a) (fun b => b = a) := fun b o w zz => .inl w
    have hst₄ : St _ s₄ T₄ := I.frame _ _ _ _ _ _ hst₃ g₃.gd st₄ (fun b hb w => (hfp b hb).2 w) soft₃
    refine wpAny_execs_nil ⟨T₄, hst₄, g₄, F₄.weak (Sg_sub ?_), ⟨j + 1, hlt, rfl, ?_⟩, ?_⟩
    · intro q hq
      simp only [l8, List.mem_cons, List.not_mem_nil, or_false] at hq
      rcases hq with rfl | rfl | rfl | rfl | rfl | rfl <;> rfl
    · rw [List.range_succ, List.map_append, List.map_append]; exact ac₄
    · exact ((st₀.trans (stn.mono fun b w => .inl (.inr (hww b w)))).trans (st₃.mono fun b w => .inl (.inl (.inl w)))).trans (st₄.mono fun b w => .inl (.inl (.inr w)))
  · rintro s₀ T₀ s' T' wv ⟨g₀, F₀, ⟨j, hj, hds, ac₀⟩, st₀⟩ hww hsoft stn hfin
    have hjk : j = k := by
      have := congrArg List.length hds
      simp at this; omega
    subst hjk
    exact ⟨_, rfl, rfl, T', tot (st₀.trans (stn.mono fun b w => .inl (.inr (hww b w)))), F₀.stepG g₀.gd stn hsoft fun b ha w => (hfp b (I.sub b (hww b w))).1 ha,
      ac₀.gen g₀.gd F₀ stn (fun b ha w => (hfp b (I.sub b (hww b w))).1 ha) (fun w => (hfp a (I.sub a (hww a w))).2 rfl) hsoft⟩
  · rintro r s' ⟨fw, rfl, h⟩
    exact h
end Mine
end

section
open PySem PySem.W PyProof.Rows PySem.SeqAt
set_option maxRecDepth 100000
set_option maxHeartbeats 1000000
namespace Mine
variable {c : Cx} {A : Around} {s : Shared} {T : Gh} {X : Addr → Prop} {env : Env} {sc : Scope} {σ : Sig} {n k M : Nat}

set_option tactic.hygienic false
theorem lw_body : lwD.body = lw 0 :: lw 1 :: lw 2 :: lw 3 :: lw 4 :: lw 5 :: lw 6 :: lw 7 :: lw 8 :: lw 9 :: lwD.body.drop 10 := rfl
noncomputable abbrev no : Addr → Prop := fun zz => False
noncomputable abbrev WT (env : Env) (s : Shared) : Addr → Prop := fun b => EnvW env lwD.scope b ∨ s.heap.get? b = none
theorem no_al (h : Heap) : Al c h no := fun zz q => q.elim
theorem toT {s₀ s' : Shared} {T' : Gh} (x : StepG c (EnvW env lwD.scope) none s T s' T') : StepG c (WT env s₀) none s T s' T' := x.mono fun b h => .inl (.inl h)
theorem new_then {s₀ : Shared} {T₀ : Gh} (x : StepG c (WT env s₀) none s₀ T₀ s T) (F : FrameOK s.heap T env lwD.scope σ X) {a : Addr} (hP : a ≠ c.P) (h : s.heap.get? a = none) : s₀.heap.get? a = none := by
  cases e : s₀.heap.get? a with
  | none => rfl
  | some o =>
    exfalso
    have : ¬ WT env s₀ a := by
      rintro (w | w)
      · obtain ⟨o', e', _⟩ := F.notSeq a w.a
        rw [h] at e'; cases e'
      · rw [e] at w; cases w
    have := x.keep a o hP this e
    rw [h] at this; cases this
theorem nodes_one {t : Tm} {ns : List Nd} (h : ns.Perm (NTs 0 [t])) : ns.Perm (NT 0 t) := by
  have : NTs 0 [t] = NT 0 t := by simp [NTs]
  rwa [this] at h
theorem law_body {m : Nat} (w : Wk c A env (m + 4)) (hm : 6 ≤ m) {xs : List Int} (g : Ok c s T) (F : FrameOK s.heap T env lwD.scope (Sg (p0 xs)) no) :
    wpAny (model c.prog c.w) A (execs lwD.body env) (fun f s' => ∃ T', StepG c (WT env s) none s T s' T' ∧ f = .ret (.bool true)) noE s := by
  have hkr := kOf_rng xs
  rw [lw_body]
  refine exs_next (stepL w st0 g (no_al _) F) ?_
  rintro s0 ⟨T0, x0, F0⟩
  have g0 := x0.ok g
  refine exs_next (stepL w st1 g0 (no_al _) F0) ?_
  rintro s1 ⟨T1, x1, F1⟩
  have g1 := x1.ok g0
  refine exs_next (stepL w (st2 (by omega)) g1 (no_al _) F1) ?_
  rintro s2 ⟨T2, x2, F2⟩
  have g2 := x2.ok g1
  generalize (700 + xs.sum : Int) = R at *
  generalize kOf xs = k at *
  have F2' : FrameOK s2.heap T2 env lwD.scope (Sg (lF k R (bsOf 0 (List.replicate k .lf)))) no := F2.weak (Sg_sub (by
    rw [bs_start]
    intro q hq
    simp only [lF, List.mem_cons, List.not_mem_nil, or_false] at hq
    rcases hq with rfl | rfl | rfl <;> rfl))
  have X2 : StepG c (WT env s) none s T s2 T2 := ((toT x0).trans (toT x1)).trans (toT x2)
  have hst3 : lw 3 = .Assign [.Name "nodes" ((sx (lw 3) 1).pos)] (.List [] ((sx (lw 3) 0).pos)) ((lw 3).pos) := rfl
  have n3 := asg_nil (A := A) (x := "nodes") (px := (sx (lw 3) 1).pos) (p := (sx (lw 3) 0).pos) (pos := (lw 3).pos) rfl rfl g2 F2'
  rw [← hst3] at n3
  refine exs_next n3 ?_
  rintro s3 ⟨a, hna, al3, x3, F3, acc3⟩
  have g3 := x3.ok g2
  have hnew : s.heap.get? a = none := new_then X2 F2' (al3 a rfl).1 hna
  have X3 : StepG c (WT env s) none s T s3 T2 := X2.trans (toT x3)
  have I : WI c env a k (fun b => EnvW env lwD.scope b ∨ b = a) s3 T2 (List.replicate k Tm.lf).length s3 T2 R (List.replicate k .lf) [] :=
    ⟨rfl, g3, al3, F3, acc3, StepG.refl, by rw [nts_start], fun t ht => by rw [(List.mem_replicate.mp ht).2]; trivial, tot_start k⟩
  refine exs_next (wh_all w (fun b h => .inl h) (.inr rfl) (by omega) (by omega) I) ?_
  rintro s4 ⟨T4, R4, t, ns, I4⟩
  have g4 := I4.g
  have X4 : StepG c (WT env s) none s T s4 T4 := X3.trans (I4.st.mono fun b h => .inl (h.imp id fun (q : b = a) => by rw [q]; exact hnew))
  have hperm := nodes_one I4.perm
  have hgood : t.good := I4.good t (by simp)
  have hsize : t.size = k := by have := I4.tot; simpa [tot] using this
  have hnl := NT_len t 0
  have hlen : ns.length ≤ 60 := by rw [hperm.length_eq]; omega
  have hf : ∀ p ∈ ns, p.f = 1 ∨ p.f = 2 := fun p hp => NT_good t 0 hgood p (hperm.mem_iff.mp hp)
  have F4 : FrameOK s4.heap T4 env lwD.scope (Sg (l5 k R4 ns)) no := by
    have h := I4.F.close I4.acc (by rw [List.length_map]; unfold big; omega)
    rw [set_Sg] at h
    refine h.weak (Sg_sub ?_)
    intro q hq
    simp only [l5, List.mem_cons, List.not_mem_nil, or_false] at hq
    rcases hq with rfl | rfl | rfl <;> rfl
  refine exs_next (stepL w st5 g4 (no_al _) F4) ?_
  rintro s5 ⟨T5, x5, F5⟩
  have g5 := x5.ok g4
  refine exs_next (stepL w (st6 (by omega)) g5 (no_al _) F5) ?_
  rintro s6 ⟨T6, x6, F6⟩
  have g6 := x6.ok g5
  refine exs_next (stepL w (st7 (by omega) (by omega)) g6 (no_al _) F6) ?_
  rintro s7 ⟨T7, x7, F7⟩
  have g7 := x7.ok g6
  have X7 : StepG c (WT env s) none s T s7 T7 := ((X4.trans (toT x5)).trans (toT x6)).trans (toT x7)
  obtain ⟨hla, _⟩ := laOf_rng R4
  generalize laOf R4 = la at *
  generalize spOf R4 k = sp at *
  generalize chOf R4 k = ch at *
  have hst8 : lw 8 = .Assign [.Name "row" ((sx (lw 8) 1).pos)] (.List [] ((sx (lw 8) 0).pos)) ((lw 8).pos) := rfl
  have n8 := asg_nil (A := A) (x := "row") (px := (sx (lw 8) 1).pos) (p := (sx (lw 8) 0).pos) (pos := (lw 8).pos) rfl rfl g7 F7
  rw [← hst8] at n8
  refine exs_next n8 ?_
  rintro s8 ⟨a', hna', al8, x8, F8, acc8⟩
  have g8 := x8.ok g7
  have hnew' : s.heap.get? a' = none := new_then X7 F7 (al8 a' rfl).1 hna'
  refine exs_next (rw_all w (by omega) hf hlen g8 F8 acc8) ?_
  rintro s9 ⟨T9, x9, F9, acc9⟩
  have g9 := x9.ok g8
  have X9 : StepG c (WT env s) none s T s9 T9 := (X7.trans (toT x8)).trans (x9.mono fun b h => .inl (h.imp id fun (q : b = a') => by rw [q]; exact hnew'))
  have hrow : ((List.range k).map fun i => (la + wsum ns i) % 3) = (List.range k).map (col t la 0) := by
    refine List.map_congr_left fun i hi => ?_
    have hi := List.mem_range.mp hi
    rw [col_wsum t la 0 i hla (Nat.zero_le _) (by omega), wsum_perm hperm]
  rw [hrow] at acc9
  have F10 : FrameOK s9.heap T9 env lwD.scope (Sg (l10 k ns la sp ch ((List.range k).map (col t la 0)))) no := by
    have h := F9.close acc9 (by rw [List.length_map, List.length_map, List.length_range]; unfold big; omega)
    rw [set_Sg] at h
    refine h.weak (Sg_sub ?_)
    intro q hq
    simp only [l10, List.mem_cons, List.not_mem_nil, or_false] at hq
    rcases hq with rfl | rfl | rfl | rfl | rfl | rfl <;> rfl
  obtain ⟨l', htail⟩ := tail_run (sp := sp) (ch := ch) m hkr hperm hsize hgood hla rfl hm
  refine wpAny_mono ((ex_sound w.X.blt (know_ok w.X (m + 4)) (sort_ok w.X.blt (m + 4)) w.hr w.hl 60).2 _ _ _ _ s9 T9 ((ex_sim (KK (m + 4)) lwD.scope 60).2 _ _ _ htail) g9 (no_al _) F10) (fun f s' h => ?_) fun zz zz e => e.elim
  obtain ⟨T', x10, v, rfl, hv⟩ := h
  simp only [Rp] at hv
  subst hv
  exact ⟨T', X9.trans (toT x10), rfl⟩

theorem newEnv_eq {scope : Scope} {globals : Addr} {x : Str} {v : Value} {qual : Str} {func : Option Addr} {code : Value} {builtins : Addr} :
    newFunctionEnv scope globals [] [(x, v)] qual func code none builtins = (newFunctionEnv scope globals [] [] qual func code none builtins >>= fun env => storeName env x v >>= fun zz => pure env) := by
  simp only [newFunctionEnv, List.forIn_cons, List.forIn_nil, bind_assoc, pure_bind]
theorem newEnv_one {M : Model} {A : Around} {E : Value → Shared → Prop} {s : Shared} {scope : Scope} {globals : Addr} {x : Str} {v : Value} {qual : Str} {func : Option Addr} {code : Value} {builtins : Addr} {Q : Env → Shared → Prop}
    (hk : scope.kind = .function) (hl : scope.names.lookup x = some .local)
    (hQ : ∀ env, env = newEnv scope s.heap.objs.size globals (cellsFrom (s.heap.objs.size + 1) scope.names []) qual func code none builtins →
      ∀ s', InCallC s env.locals (bindL env.kindOf [(x, v)] fun zz => none) env.cells (bindC env.kindOf [(x, v)] fun zz => none) s' → 0 < s'.toks → Q env s') :
    wpAny M A (newFunctionEnv scope globals [] [(x, v)] qual func code none builtins) Q E s := by
  rw [newEnv_eq]
  refine wpAny_bind (wpAny_newFunctionEnv_cells hk (fun y hy => by cases hy) fun env he s₁ C => ?_)
  have hk' : env.scope.kind = .function := by rw [he]; exact hk
  have hl' : env.kindOf x = some .local := by rw [he]; exact hl
  have w := wpAny_both (M := M) (A := A) (E := E) (E' := E) (Q := fun zz s' => InCallC s env.locals (fun y => if y = x then some v else none) env.cells (fun zz => none) s') (Q' := fun zz s' => 0 < s'.toks) (stLC C hk' hl' fun s' x' => x')
    (wpAny_storeName_local hl' C.toInCall.ns (fun h' hn' hs' => Nat.succ_pos _) (by rw [hk']; rfl))
  refine wpAny_bind (wpAny_mono w (fun zz s' q => wpAny_pure (hQ env he s' ?_ q.2)) fun zz zz e => e.1)
  simp only [bindL, bindC, if_pos hl']
  exact q.1
theorem law_call {m : Nat} (X : CxOK c) (hm : 6 ≤ m) {xs : List Int} {a : Addr} {sv : Value} (ha : c.mg "law" = some (.ref a)) (hr : Room A (m + 4 + 1)) (gd : Gd c s.heap) (H : Rp s.heap noGh no (.list (xs.map .int)) sv) :
    wpAny (model c.prog c.w) A (call (.ref a) [sv]) (fun v s' => v = .bool true ∧ (∃ T', Step c s noGh s' T') ∧ Gd c s'.heap) noE s := by
  have hmem : lwD ∈ theDefs := (findD_some (f := "law") (d := lwD) rfl).1
  have DO : DefOK c lwD := def_ok X hmem rfl
  obtain ⟨a', o, pm, code, doc, hm', ho, hd, hcd⟩ := gd.fn lwD DO.mem
  have hn : lwD.name = "law" := rfl
  rw [hn, ha] at hm'; cases hm'
  refine wpAny_call (codeAny_call_function (fd := Calls.docDef lwD.name lwD.params lwD.body lwD.scope pm code doc) hr.lim ho hd DO.co DO.gen rfl hcd ?_)
  rw [DO.bind [sv] pm code doc rfl]
  refine wpAny_pure (wpAny_with_toks (Nat.le_refl _) (newEnv_one (scope := lwD.scope) (x := "script") (v := sv) DO.kind rfl fun env he s₁ x hpos htk => ?_))
  refine ⟨gd.nolimit.keeps x.toInCall.keep, codeAny_func ?_⟩
  obtain ⟨h₁, tk, rfl, _⟩ := x.done
  have st₁ : Step c s noGh { s with heap := h₁, toks := tk } noGh := Step.of_push x.toInCall.keep htk
  have g₁ : Ok c { s with heap := h₁, toks := tk } noGh := ⟨gd.keeps x.toInCall.keep, hpos, fun t x e => by cases e⟩
  have e1 : env.scope = lwD.scope := by rw [he]; rfl
  have e2 : env.locals = s.heap.objs.size := by rw [he]; rfl
  have e3 : env.cells = cellsFrom (s.heap.objs.size + 1) lwD.scope.names [] := by rw [he]; rfl
  have e4 : env.globals = mainGlobals := by rw [he]; rfl
  have e5 : env.builtins = builtinsNs := by rw [he]; rfl
  have hko : ∀ f, env.kindOf f = lwD.scope.names.lookup f := fun f => by unfold Env.kindOf; rw [e1]
  have h3 : (3 : Nat) < s.heap.objs.size := by
    obtain ⟨o, es, ep, hg, _⟩ := gd.g
    exact Heap.lt_size hg
  have eok : EnvOK env lwD.scope := by
    refine ⟨by rw [e1]; exact DO.kind, e4, e5, fun f e => by rw [hko]; exact e, fun f e => by rw [hko]; exact e, fun f e => ?_, fun f e => by rw [hko]; exact e, by rw [e2]; exact h3, fun f f' a h1 h2 => name_of_addr x.apart (mem_of_lookup h1) (mem_of_lookup h2)⟩
    rcases e with e | e
    · exact ⟨.inl (by rw [hko]; exact e), Option.isSome_iff_exists.mp (by rw [e3]; exact cells_has _ _ _ _ (mem_of_lookup e))⟩
    · exact absurd rfl (DO.free _ (mem_of_lookup e))
  have hσ : setAll (fun zz => none) (lwD.params.args.map (·.arg)) [.list (xs.map .int)] = some (Sg (p0 xs)) := by
    rw [Sg_nil, setAll_Sg]; rfl
  have HL : RpL s.heap noGh no [.list (xs.map .int)] [sv] := by
    simp only [RpL]
    exact ⟨sv, [], rfl, H, rfl⟩
  have F₁ : FrameOK h₁ noGh env lwD.scope (Sg (p0 xs)) no := by
    refine ⟨eok, ⟨_, x.toInCall.ns⟩, fun f a e => ⟨_, x.cell f a e⟩, fun y dd hy => ?_⟩
    obtain ⟨v, r1, r2⟩ := binds_has (kindOf := env.kindOf) (lwD.params.args.map (·.arg)) [.list (xs.map .int)] [sv] (fun zz => none) (fun zz => none) (fun zz => none) (Sg (p0 xs)) (fun x hx => by
      rw [hko]
      have := DO.par x hx
      simpa only [stOk, Bool.or_eq_true, beq_iff_eq] using this) hσ (st₁.rpL gd HL) (by intro x d e; cases e) y dd hy
    refine ⟨v, ?_, r1⟩
    rcases r2 with ⟨q1, q2⟩ | ⟨q1, q2⟩
    · exact .inl ⟨q1, _, x.toInCall.ns, q2⟩
    · obtain ⟨a, ha⟩ := (eok.ce y (.inl (by rw [← hko]; exact q1))).2
      refine .inr ⟨.inl q1, a, ha, ?_⟩
      have := x.cell y a ha
      have q2 : bindC env.kindOf [("script", sv)] (fun zz => none) y = some v := q2
      rw [q2] at this
      exact this
  have hlam : LamOK c env lwD.scope := fun e => by
    obtain ⟨hname, _⟩ := DO.lam e
    exact absurd hname (by decide)
  have hW : ∀ b, EnvW env lwD.scope b → s.heap.get? b = none := fun b hb => by
    rcases hb.a with q | ⟨f, q⟩
    · rw [q, e2]; exact Heap.get?_none_of_le (Nat.le_refl _)
    · have := x.above f b (mem_of_lookup q)
      rw [e2] at this
      exact Heap.get?_none_of_le (Nat.le_of_lt this)
  refine wpAny_mono (law_body (m := m) ⟨X, Room.deeper (env := env) hr, hlam⟩ hm g₁ F₁) (fun f s' h' => ?_) fun zz zz e => e.elim
  obtain ⟨T', st', rfl⟩ := h'
  have hold : ∀ b, h₁.get? b = none → s.heap.get? b = none := fun b hb => by
    cases e : s.heap.get? b with
    | none => rfl
    | some o => rw [x.toInCall.keep b o e] at hb; cases hb
  exact ⟨rfl, ⟨T', (st₁.g.trans st').step fun b hb => hb.elim (hW b) (hold b)⟩, (st'.ok g₁).gd⟩
end Mine
end

section
open PySem PySem.W PyProof.Rows
set_option maxRecDepth 100000
set_option maxHeartbeats 1000000
namespace Mine
set_option tactic.hygienic false
theorem boot_all : (bltNames.all fun f => decide (f ≠ "__name__" ∧ bootBuiltins f = some (bltV f))) = true := by decide +kernel
theorem boot_rest : bootBuiltins "range" = some (.type "range") ∧ bootBuiltins "list" = some (.type "list") ∧ bootBuiltins "sorted" = some (.builtin "sorted") ∧ bootBuiltins "enumerate" = some (.type "enumerate") := by decide +kernel
theorem hlist_of {h : Heap} {la : Addr} {vs : List Value} {xs : List PyData} {P : Params} (hL : h.IsList la vs.toArray) (w : Well P h (.ref la) (ofPy (.list xs))) : h.get? la = some { cls := .type "list", data := .seq vs.toArray } := by
  generalize hd : ofPy (.list xs) = d at w
  obtain ⟨o', e', hc, n, hda⟩ := hL
  cases w with
  | list e _ =>
    rw [e] at e'
    cases e'
    injection hda with hda
    rw [e, hda]
  | tuple e _ => rw [e] at e'; cases e'; injection hc with hc; exact absurd hc (by decide)
  | dict e _ => rw [e] at e'; cases e'; injection hc with hc; exact absurd hc (by decide)
  | bytearray e => rw [e] at e'; cases e'; injection hc with hc; exact absurd hc (by decide)
  | set e _ _ _ => rw [e] at e'; cases e'; injection hc with hc; exact absurd hc (by decide)
  | frozenset e _ _ _ => rw [e] at e'; cases e'; injection hc with hc; exact absurd hc (by decide)
  | obj e _ _ _ => rw [e] at e'; cases e'; cases hc
theorem ints_rp {h : Heap} {T : Gh} {X : Addr → Prop} : ∀ {vs : List Value} {xs : List Int}, IntsAre vs xs → RpL h T X (xs.map .int) vs
  | _, _, .nil => by simp only [List.map_nil, RpL]
  | _, _, .cons n t r => by
    simp only [List.map_cons, RpL]
    exact ⟨_, _, rfl, by simp only [Rp]; exact ⟨t, rfl⟩, ints_rp r⟩

theorem glP_nan {x : Str} {b : UInt64} (h : glP x = some b) : Float64.isNaN b = false := by
  unfold glP at h
  split at h
  · cases h; decide +kernel
  split at h
  · cases h; decide +kernel
  split at h
  · cases h; decide +kernel
  · cases h
set_option tactic.hygienic true
theorem reads_flt {h : Heap} {v : Value} {b : UInt64} (r : ReadsLit h v (.float b) []) (hb : Float64.isNaN b = false) : ∃ t, v = .float b t := by
  generalize hd : WData.float b = d at r
  cases r <;> cases hd
  rename_i b' t
  unfold canon at hb
  unfold canon
  split at hb
  · rename_i h
    have : Float64.isNaN Float64.nan = true := by decide +kernel
    rw [this] at hb; cases hb
  · rename_i h
    exact ⟨t, by rw [if_neg h]⟩

theorem join {R p : Program} {loose : List Str} {mean : ExcName → Option Value} {w : World} {s : Shared} {mg mb : Str → Option Value} {A : Around} (T : Top p loose mean mg mb s.heap) (hK : s.heap.get? cStatics = some emp) (GX : LooseAre glL mg s.heap) (hgens : s.gens = #[])
    (hrec : recsOf p = theDefs) (hfree : bltAll.all (freeIn p loose) = true) {a la : Addr} {vs : List Value} {xs : List Int}
    (hlist : s.heap.get? la = some { cls := .type "list", data := .seq vs.toArray }) (hints : IntsAre vs xs) (hlen : xs.length ≤ 63) (ha : mg "law" = some (.ref a)) (hr : Room A 11) :
    wpAny (model R w) A (call (.ref a) [.ref la]) (fun v s' => v = .bool true ∧ OldK s.heap s'.heap ∧ s'.os = s.os ∧ AllBare s'.gens) noE s := by
  have htx : theD "_law_text" ∈ recsOf p := by rw [hrec]; exact (findD_some (f := "_law_text") rfl).1
  obtain ⟨ta, to, tfd, cT, P, t1, t2, t3, t4, t5, t6⟩ := T.tab _ htx
  have hP0 : s.heap.get? P = some (tabObj #[]) := t6.2
  let c : Cx := ⟨R, w, mg, mb, theDefs, cT, P, 170, 70, "_law_text.<locals>.<lambda>", lscP⟩
  have gd : Gd c s.heap := by
    refine ⟨T.g, T.b, T.nolimit, ⟨fun zz => none, ⟨_, _, _, hK, rfl, ?_, fun zz => rfl⟩, rfl⟩, fun d hd => T.fn d (by rw [hrec]; exact hd), ⟨ta, to, tfd, t1, t2, t3, t4⟩, CodeHd.of t5 t6, ⟨#[], hP0, .inl rfl⟩, T.bmain⟩
    intro e he
    simp at he
  have X : CxOK c := by
    refine ⟨fun d hd => hd, rfl, ⟨rfl, rfl⟩, rfl, fun d hd => ?_, fun x b hb => ?_, ⟨fun f hf => ?_, fun f hf => ?_, ?_, ?_, ?_, ?_⟩⟩
    · obtain ⟨a, o, pm, code, doc, h1, _⟩ := T.fn d (by rw [hrec]; exact hd)
      exact ⟨a, h1⟩
    · have key : (x, WData.float b) ∈ glL := by
        unfold glP at hb
        unfold glL
        split at hb
        · rename_i h; cases hb; rw [beq_iff_eq] at h; subst h; simp
        split at hb
        · rename_i h; cases hb; rw [beq_iff_eq] at h; subst h; simp
        split at hb
        · rename_i h; cases hb; rw [beq_iff_eq] at h; subst h; simp
        · cases hb
      obtain ⟨v, h1, h2⟩ := GX.val _ key
      obtain ⟨t, rfl⟩ := reads_flt h2 (glP_nan hb)
      exact ⟨t, h1⟩
    · have h := List.all_eq_true.mp hfree f hf
      simp only [freeIn, Bool.and_eq_true, Bool.not_eq_true'] at h
      obtain ⟨h1, h2, h3, h4, h5⟩ := h
      have no : ∀ {l : List Str}, l.contains f = false → f ∉ l := fun q m => by rw [List.contains_iff_mem.mpr m] at q; cases q
      exact T.free f (no h1) (no h2) (no h3) (no h4) (no h5)
    · have h := List.all_eq_true.mp boot_all f hf
      rw [decide_eq_true_eq] at h
      exact (T.builtins f h.1).trans h.2
    · exact (T.builtins _ (by decide)).trans boot_rest.1
    · exact (T.builtins _ (by decide)).trans boot_rest.2.1
    · exact (T.builtins _ (by decide)).trans boot_rest.2.2.1
    · exact (T.builtins _ (by decide)).trans boot_rest.2.2.2
  have H : Rp s.heap noGh no (.list (xs.map .int)) (.ref la) := by
    simp only [Rp]
    exact ⟨by rw [List.length_map]; unfold big; omega, la, vs, rfl, fun q => q, ⟨0, hlist⟩, ints_rp hints⟩
  refine wpAny_mono (law_call (m := 6) X (Nat.le_refl _) ha hr gd H) (fun v s' h => ?_) fun zz zz e => e
  obtain ⟨rfl, ⟨T', st⟩, gd'⟩ := h
  refine ⟨rfl, ⟨fun b o e => ?_, fun b o e => ?_⟩, st.os, fun y hy => ?_⟩
  · by_cases hb : b = P
    · subst hb
      rw [hP0] at e; cases e
      obtain ⟨ps, q, _⟩ := gd'.tab
      exact .inr (.inl ⟨t6.isCodeTable, rfl, #[], ps, rfl, by rw [q]; simp⟩)
    · exact .inl (st.keep b o hb e)
  · by_cases hb : b = P
    · subst hb
      obtain ⟨ps, q, _⟩ := gd'.tab
      exact ⟨_, q⟩
    · exact ⟨o, st.keep b o hb e⟩
  · obtain ⟨i, hi, e⟩ := Array.mem_iff_getElem.mp hy
    have := st.gnew i y (by rw [hgens]; simp) (by rw [Array.getElem?_eq_getElem hi, e])
    rw [this]; rfl
end Mine
end

section
open PySem PySem.W PyProof.Rows PySem.W.X
set_option maxHeartbeats 8000000 in
theorem PySem.Challenge.cw_ph0103_01_holds : PySem.Challenge.rw_ph0103_01.Holds := by
  w_on
  refine holds_law Mine.said0 fun said => ?_
  refine holds_open (q := Mine.q0) (loose := Mine.glN) (Xt := fun s => xlAt Mine.q0 Mine.glL s && recOk [] s) (XP := XL Mine.q0 Mine.glL) (Yf := fun s => s.heap.get? cStatics) (Ya := fun _ => some Mine.emp) (YP := fun _ h => h.get? cStatics = some Mine.emp) (d := Mine.lwD) (kwd := []) (N := 1422)
    Mine.left0 (fun w s e => e) (fun w h h' x k => k _ _ x) (fun s e => xl_of s (Bool.and_eq_true_iff.mp e).1) XL.keeps (by rfl) (by rfl) (by rfl) (fun s e => recFacts_of (Bool.and_eq_true_iff.mp e).2) (by rfl) said Mine.ok0 Mine.bare0 ?hw ?hc
  case hw => w_witness2
  intro w s₀ s₁ mg mb G Y fa o pm cd doc dV kV ho hd hcd hD hmg hg args vals as hpre hlay hrd hwl hlo
  clear hd ho hcd hD
  have GX := G.X
  refine Ground.open G ?_
  intro T B D TE TW
  wrow_args hpre hlay hrd hwl hlo
  all_lens
  rename_i xs hs hlay0 hL1 hr1 hl2 as1 as2 la vs as3 hL ra w1 r0 hr hc1 hc2 hi hb
  have hlist := Mine.hlist_of hL w1
  refine wpAny_mono (Mine.join (A := callerA) T Y GX.2 hg rfl Mine.free0 hlist hi (by omega) hmg ⟨rfl, by decide, by decide⟩) (fun v s' h => ?_) (fun _ _ e => e.elim)
  obtain ⟨rfl, h1, h2, h3⟩ := h
  refine ⟨.inl ⟨_, .bool true, [], rfl, fun cls => ?_, .bool true, ?_, fun _ => ⟨.nil, by simp⟩⟩, h1, h2, h3⟩
  · rfl
  · wrow_post
end
