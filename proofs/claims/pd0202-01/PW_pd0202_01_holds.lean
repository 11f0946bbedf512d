import PyProof.Rows.All
import Wide.All
import OpenK.AllK
import Wide.FinOn
import KE.KDictIter
import PyProof.CollectWalk
import PyProof.TupleOfSeq
import PyProof.TupleOfGen
import PyProof.ReprLoop
import PyProof.SetRoads
import PyProof.EnumMake
import Lean
import PyProof.ToksMono
import PyProof.Conv_int
import PyProof.ListRange
import PyProof.RaisesMany
import KE.KStopIter
import KE.BytesMake
import KE.KEqSeq
import PyProof.Rows.SumAny
import PyProof.NeKinds
import Lean
import PySem.Challenge.RW_pd0202_01
open PySem PySem.W PyProof.Rows PySem.Calls
set_option Elab.async false
set_option linter.all false
set_option linter.unusedVariables false
set_option maxRecDepth 100000
namespace Mine
section
open PySem PySem.W PyProof.Rows PySem.Calls
abbrev Led := Addr → Obj → Prop
noncomputable def Led.le (G G' : Led) : Prop := ∀ a o, G a o → G' a o
noncomputable def Led.In (G : Led) (h : Heap) : Prop := ∀ a o, G a o → h.get? a = some o
noncomputable def Led.add (G : Led) (x : Addr) (ob : Obj) : Led := fun a o => G a o ∨ (a = x ∧ o = ob)
theorem Led.le.rfl {G : Led} : G.le G := fun _ _ h => h
theorem Led.le.trans {G G' G'' : Led} (h : G.le G') (k : G'.le G'') : G.le G'' := fun a o x => k a o (h a o x)
theorem Led.le_add {G : Led} {x : Addr} {ob : Obj} : G.le (G.add x ob) := fun _ _ h => .inl h
inductive PV where
  | none
  | bool (b : Bool)
  | int (i : Int)
  | str (x : PySem.Str)
  | bytes (b : Array UInt8)
  | list (ps : List PV)
  | tup (ps : List PV)
  | slice (l u : Option Int)
  | range (n : Int)
  | deq
  | con (v : Value)
mutual
inductive Rep (G : Led) : Value → PV → Prop
  | none : Rep G .none .none
  | bool (b : Bool) : Rep G (.bool b) (.bool b)
  | int (i : Int) (t : Tok) : Rep G (.int i t) (.int i)
  | str (x : PySem.Str) (t : Tok) : Rep G (.str x t) (.str x)
  | bytes (x : Array UInt8) (t : Tok) : Rep G (.bytes x t) (.bytes x)
  | list {a : Addr} {o : Obj} {vs : List Value} {n : Nat} {ps : List PV} : G a o → o.cls = .type "list" → o.data = .seq vs.toArray n → RepAll G vs ps → Rep G (.ref a) (.list ps)
  | tup {a : Addr} {o : Obj} {vs : List Value} {n : Nat} {ps : List PV} : G a o → o.cls = .type "tuple" → o.data = .seq vs.toArray n → RepAll G vs ps → Rep G (.ref a) (.tup ps)
  | slice {a : Addr} {o : Obj} {l u : Option (Int × Tok)} : G a o → o.cls = .type "slice" → o.data = .fields #[partValue l, partValue u, .none] → Rep G (.ref a) (.slice (l.map (·.1)) (u.map (·.1)))
  | range {a : Addr} {n : Int} {t u v : Tok} : G a { cls := .type "range", data := .fields #[.int 0 t, .int n u, .int 1 v] } → Rep G (.ref a) (.range n)
  | deq {a : Addr} {o : Obj} : G a o → o.cls = .type "collections.deque" → (∃ u v : Value, o.data = .fields #[u, v]) → Rep G (.ref a) .deq
  | con (v : Value) : Rep G v (.con v)
inductive RepAll (G : Led) : List Value → List PV → Prop
  | nil : RepAll G [] []
  | cons {v : Value} {p : PV} {vs : List Value} {ps : List PV} : Rep G v p → RepAll G vs ps → RepAll G (v :: vs) (p :: ps)
end
theorem Rep.both {G G' : Led} (h : G.le G') : (∀ {v : Value} {p : PV}, Rep G v p → Rep G' v p) ∧ ∀ {vs : List Value} {ps : List PV}, RepAll G vs ps → RepAll G' vs ps :=
  ⟨fun r => Rep.rec (motive_1 := fun v p _ => Rep G' v p) (motive_2 := fun vs ps _ => RepAll G' vs ps) .none .bool .int .str .bytes (fun g c d _ r => .list (h _ _ g) c d r) (fun g c d _ r => .tup (h _ _ g) c d r) (fun g c d => .slice (h _ _ g) c d) (fun g => .range (h _ _ g)) (fun g c d => .deq (h _ _ g) c d) .con .nil (fun _ _ a b => .cons a b) r,
   fun r => RepAll.rec (motive_1 := fun v p _ => Rep G' v p) (motive_2 := fun vs ps _ => RepAll G' vs ps) .none .bool .int .str .bytes (fun g c d _ r => .list (h _ _ g) c d r) (fun g c d _ r => .tup (h _ _ g) c d r) (fun g c d => .slice (h _ _ g) c d) (fun g => .range (h _ _ g)) (fun g c d => .deq (h _ _ g) c d) .con .nil (fun _ _ a b => .cons a b) r⟩
theorem Rep.mono {G G' : Led} (h : G.le G') {v : Value} {p : PV} (r : Rep G v p) : Rep G' v p := (Rep.both h).1 r
theorem RepAll.mono {G G' : Led} (h : G.le G') {vs : List Value} {ps : List PV} (r : RepAll G vs ps) : RepAll G' vs ps := (Rep.both h).2 r
theorem RepAll.ind {G : Led} {P : List Value → List PV → Prop} (h0 : P [] []) (h1 : ∀ {v : Value} {p : PV} {vs : List Value} {ps : List PV}, Rep G v p → RepAll G vs ps → P vs ps → P (v :: vs) (p :: ps)) : ∀ {vs : List Value} {ps : List PV}, RepAll G vs ps → P vs ps
  | _, _, r => RepAll.rec (motive_1 := fun _ _ _ => True) (motive_2 := fun vs ps _ => P vs ps) trivial (fun _ => trivial) (fun _ _ => trivial) (fun _ _ => trivial) (fun _ _ => trivial) (fun _ _ _ _ _ => trivial) (fun _ _ _ _ _ => trivial) (fun _ _ _ => trivial) (fun _ => trivial) (fun _ _ _ => trivial) (fun _ => trivial) h0 (fun a b _ k => h1 a b k) r
theorem RepAll.length {G : Led} {vs : List Value} {ps : List PV} (r : RepAll G vs ps) : vs.length = ps.length := RepAll.ind (P := fun vs ps => vs.length = ps.length) rfl (fun _ _ k => congrArg Nat.succ k) r
theorem RepAll.append {G : Led} {vs us : List Value} {ps qs : List PV} (r : RepAll G vs ps) (k : RepAll G us qs) : RepAll G (vs ++ us) (ps ++ qs) := RepAll.ind (P := fun vs ps => RepAll G (vs ++ us) (ps ++ qs)) k (fun a _ b => .cons a b) r
theorem RepAll.get {G : Led} {vs : List Value} {ps : List PV} (r : RepAll G vs ps) : ∀ (i : Nat) (p : PV), ps[i]? = some p → ∃ v, vs[i]? = some v ∧ Rep G v p :=
  RepAll.ind (P := fun vs ps => ∀ (i : Nat) (p : PV), ps[i]? = some p → ∃ v, vs[i]? = some v ∧ Rep G v p) (fun _ p e => (Option.some_ne_none p (e.symm.trans List.getElem?_nil)).elim)
    (fun {v p vs ps} a _ k i => Nat.rec (motive := fun i => ∀ q, (p :: ps)[i]? = some q → ∃ u, (v :: vs)[i]? = some u ∧ Rep G u q) (fun q e => ⟨v, rfl, Option.some.inj e ▸ a⟩) (fun i _ q e => k i q e) i) r
theorem RepAll.get' {G : Led} {vs : List Value} {ps : List PV} (h : RepAll G vs ps) (i : Nat) (v : Value) (e : vs[i]? = some v) : ∃ p, ps[i]? = some p ∧ Rep G v p := by
  have hi : i < ps.length := by
    rw [← h.length]
    exact (List.getElem?_eq_some_iff.mp e).1
  obtain ⟨u, hu, r⟩ := h.get i _ (List.getElem?_eq_getElem hi)
  rw [e] at hu
  cases hu
  exact ⟨_, List.getElem?_eq_getElem hi, r⟩
theorem RepAll.drop {G : Led} : ∀ {vs : List Value} {ps : List PV} (n : Nat), RepAll G vs ps → RepAll G (vs.drop n) (ps.drop n)
  | _, _, 0, h => h
  | _, _, _ + 1, .nil => .nil
  | _, _, n + 1, .cons _ b => b.drop n
theorem RepAll.take {G : Led} : ∀ {vs : List Value} {ps : List PV} (n : Nat), RepAll G vs ps → RepAll G (vs.take n) (ps.take n)
  | _, _, 0, _ => .nil
  | _, _, _ + 1, .nil => .nil
  | _, _, n + 1, .cons a b => .cons a (b.take n)
inductive MO where
  | frame (σ : List (PySem.Str × PV))
  | attrs (σ : List (PySem.Str × PV))
  | lst (ps : List PV)
  | cell (p : Option PV)
  | biter (b : Array UInt8) (i : Nat)
  | raw (o : Obj)
noncomputable def MO.Is (G : Led) (h : Heap) (a : Addr) : MO → Prop
  | .frame σ => ∃ m, h.Ns a m ∧ ∀ x p, σ.lookup x = some p → ∃ v, m x = some v ∧ Rep G v p
  | .attrs σ => ∃ m, h.Ns1 a m ∧ (∀ x p, σ.lookup x = some p → ∃ v, m x = some v ∧ Rep G v p) ∧ ∀ x, σ.lookup x = none → m x = none
  | .lst ps => ∃ vs, PlainL h a vs.toArray ∧ RepAll G vs ps
  | .cell p => ∃ c, h.IsCell a c ∧ ∀ q, p = some q → ∃ v, c = some v ∧ Rep G v q
  | .biter b i => ∃ o t u, h.get? a = some o ∧ o.cls = .type "bytes_iterator" ∧ o.data = .fields #[.bytes b t, .int i u]
  | .raw o => h.get? a = some o
theorem MO.has {G : Led} {h : Heap} {a : Addr} {m : MO} (i : m.Is G h a) : ∃ o, h.get? a = some o := by
  cases m with
  | frame => exact i.elim fun m x => x.1.imp fun o y => y.elim fun _ y => y.elim fun _ y => y.1
  | attrs => exact i.elim fun m x => x.1.imp fun o y => y.elim fun _ y => y.elim fun _ y => y.1
  | lst => exact i.elim fun m x => x.1.imp fun o y => y.elim fun _ y => y.1
  | cell => exact i.elim fun m x => x.1.imp fun o y => y.1
  | biter => exact i.imp fun o y => y.elim fun _ y => y.elim fun _ y => y.1
  | raw o => exact ⟨o, i⟩
theorem MO.mv {G G' : Led} {h h' : Heap} {a : Addr} (l : G.le G') (e : ∀ o, h.get? a = some o → h'.get? a = some o) : ∀ {m : MO}, m.Is G h a → m.Is G' h' a
  | .frame _ => fun ⟨m, n, k⟩ => ⟨m, n.at e, fun x p q => (k x p q).imp fun _ y => ⟨y.1, y.2.mono l⟩⟩
  | .attrs _ => fun ⟨m, n, k, z⟩ => ⟨m, n.at e, fun x p q => (k x p q).imp fun _ y => ⟨y.1, y.2.mono l⟩, z⟩
  | .lst _ => fun ⟨vs, p, r⟩ => ⟨vs, p.imp fun o ⟨n, g, z⟩ => ⟨n, e o g, z⟩, r.mono l⟩
  | .cell _ => fun ⟨c, p, k⟩ => ⟨c, p.imp fun o y => ⟨e o y.1, y.2⟩, fun q hq => (k q hq).imp fun _ y => ⟨y.1, y.2.mono l⟩⟩
  | .biter _ _ => fun i => i.imp fun o t => t.imp fun t u => u.imp fun u y => ⟨e o y.1, y.2⟩
  | .raw o => e o
abbrev Wld := List (Addr × MO)
structure Wd where
  prog : Program
  w : World
  B : Heap
  mg : PySem.Str → Option Value
  mb : PySem.Str → Option Value
  os : OsState
structure Wd.Ok (D : Wd) : Prop where
  g : D.B.Ns mainGlobals D.mg
  b : D.B.Ns builtinsNs D.mb
  nolimit : D.B.NoLimit
  builtins : ∀ x : PySem.Str, x ≠ "__name__" → D.mb x = bootBuiltins x
structure Core (D : Wd) (F G : Led) (W : Wld) (s : Shared) : Prop where
  base : ∀ a o, D.B.get? a = some o → G a o
  inn : G.In s.heap
  frn : F.In s.heap
  apart : ∀ a o o', G a o → ¬ F a o'
  wG : ∀ p ∈ W, ∀ o, ¬ G p.1 o
  wF : ∀ p ∈ W, ∀ o, ¬ F p.1 o
  nd : (W.map (·.1)).Nodup
  wok : ∀ p ∈ W, p.2.Is G s.heap p.1
  gens : s.gens = #[]
  os : s.os = D.os
section
variable {D : Wd} {F G : Led} {W : Wld} {s : Shared}
theorem Core.keeps (c : Core D F G W s) : ∀ a o, D.B.get? a = some o → s.heap.get? a = some o := fun a o e => c.inn a o (c.base a o e)
theorem Core.toks (c : Core D F G W s) (t : Nat) : Core D F G W { s with toks := t } := ⟨c.base, c.inn, c.frn, c.apart, c.wG, c.wF, c.nd, c.wok, c.gens, c.os⟩
theorem Core.wlt (c : Core D F G W s) {p : Addr × MO} (h : p ∈ W) : p.1 < s.heap.objs.size := by
  obtain ⟨o, e⟩ := MO.has (c.wok p h)
  exact Heap.lt_size e
theorem Core.grow (c : Core D F G W s) {h' : Heap} {t : Nat} (k : ∀ a o, s.heap.get? a = some o → h'.get? a = some o) : Core D F G W { s with heap := h', toks := t } :=
  ⟨c.base, fun a o g => k a o (c.inn a o g), fun a o g => k a o (c.frn a o g), c.apart, c.wG, c.wF, c.nd, fun p hp => MO.mv Led.le.rfl (k p.1) (c.wok p hp), c.gens, c.os⟩
theorem Core.freeze (c : Core D F G W s) {x : Addr} {ob : Obj} (e : s.heap.get? x = some ob) (hF : ∀ o, ¬ F x o) (hW : ∀ p ∈ W, p.1 ≠ x) : Core D F (G.add x ob) W s :=
  ⟨fun a o h => .inl (c.base a o h), fun a o g => g.elim (c.inn a o) fun ⟨h1, h2⟩ => by subst h1; subst h2; exact e, c.frn,
   fun a o o' g f => g.elim (fun g => c.apart a o o' g f) fun ⟨h1, _⟩ => hF o' (h1 ▸ f), fun p hp o g => g.elim (c.wG p hp o) fun ⟨h1, _⟩ => hW p hp h1, c.wF, c.nd,
   fun p hp => MO.mv Led.le_add (fun _ h => h) (c.wok p hp), c.gens, c.os⟩
theorem Core.fresh_F (c : Core D F G W s) {x : Addr} (hx : s.heap.objs.size ≤ x) (o : Obj) : ¬ F x o := fun f => Nat.not_lt.mpr hx (Heap.lt_size (c.frn x o f))
theorem Core.fresh_G (c : Core D F G W s) {x : Addr} (hx : s.heap.objs.size ≤ x) (o : Obj) : ¬ G x o := fun f => Nat.not_lt.mpr hx (Heap.lt_size (c.inn x o f))
theorem Core.fresh_W (c : Core D F G W s) {x : Addr} (hx : s.heap.objs.size ≤ x) : ∀ p ∈ W, p.1 ≠ x := fun p hp e => Nat.not_lt.mpr hx (e ▸ c.wlt hp)
theorem Core.made (c : Core D F G W s) {ob : Obj} (hf : ob.isFreed = false) : Core D F (G.add s.heap.objs.size ob) W { s with heap := s.heap.push ob } :=
  Core.freeze (c.grow (t := s.toks) fun _ _ e => Heap.get?_push_of_some _ e) (Heap.get?_push_size _ hf) (c.fresh_F (Nat.le_refl _)) (c.fresh_W (Nat.le_refl _))
theorem Core.new (c : Core D F G W s) {h' : Heap} {t : Nat} {x : Addr} {m : MO} (hx : s.heap.objs.size ≤ x) (k : ∀ a o, s.heap.get? a = some o → h'.get? a = some o) (hm : m.Is G h' x) : Core D F G ((x, m) :: W) { s with heap := h', toks := t } := by
  have g := c.grow (t := t) k
  refine ⟨g.base, g.inn, g.frn, g.apart, ?_, ?_, ?_, ?_, g.gens, g.os⟩
  · intro p hp o; rcases List.mem_cons.mp hp with rfl | hp
    · exact c.fresh_G hx o
    · exact c.wG p hp o
  · intro p hp o; rcases List.mem_cons.mp hp with rfl | hp
    · exact c.fresh_F hx o
    · exact c.wF p hp o
  · rw [List.map_cons, List.nodup_cons]
    refine ⟨fun hm => ?_, c.nd⟩
    obtain ⟨p, hp, e⟩ := List.mem_map.mp hm
    exact c.fresh_W hx p hp e
  · intro p hp; rcases List.mem_cons.mp hp with rfl | hp
    · exact hm
    · exact g.wok p hp
theorem Core.pop {q : Addr × MO} (c : Core D F G (q :: W) s) : Core D F G W s :=
  ⟨c.base, c.inn, c.frn, c.apart, fun p hp => c.wG p (.tail _ hp), fun p hp => c.wF p (.tail _ hp), by have := c.nd; rw [List.map_cons, List.nodup_cons] at this; exact this.2, fun p hp => c.wok p (.tail _ hp), c.gens, c.os⟩
theorem Core.sub {W' : Wld} (c : Core D F G W s) (h : W'.Sublist W) : Core D F G W' s :=
  ⟨c.base, c.inn, c.frn, c.apart, fun p hp => c.wG p (h.subset hp), fun p hp => c.wF p (h.subset hp), (h.map _).nodup c.nd, fun p hp => c.wok p (h.subset hp), c.gens, c.os⟩
theorem Core.tell {a : Addr} {m m' : MO} {W₁ W₂ : Wld} (c : Core D F G (W₁ ++ (a, m) :: W₂) s) (h : m.Is G s.heap a → m'.Is G s.heap a) : Core D F G (W₁ ++ (a, m') :: W₂) s := by
  have e : (W₁ ++ (a, m') :: W₂).map (·.1) = (W₁ ++ (a, m) :: W₂).map (·.1) := by simp
  have mem : ∀ p ∈ W₁ ++ (a, m') :: W₂, (∃ q ∈ W₁ ++ (a, m) :: W₂, q.1 = p.1) ∧ (p ∈ W₁ ++ (a, m) :: W₂ ∨ p = (a, m')) := by
    intro p hp
    rcases List.mem_append.mp hp with hp | hp
    · exact ⟨⟨p, List.mem_append.mpr (.inl hp), rfl⟩, .inl (List.mem_append.mpr (.inl hp))⟩
    · rcases List.mem_cons.mp hp with rfl | hp
      · exact ⟨⟨(a, m), List.mem_append.mpr (.inr (.head _)), rfl⟩, .inr rfl⟩
      · exact ⟨⟨p, List.mem_append.mpr (.inr (.tail _ hp)), rfl⟩, .inl (List.mem_append.mpr (.inr (.tail _ hp)))⟩
  refine ⟨c.base, c.inn, c.frn, c.apart, ?_, ?_, e ▸ c.nd, ?_, c.gens, c.os⟩
  · intro p hp o; obtain ⟨q, hq, eq⟩ := (mem p hp).1; rw [← eq]; exact c.wG q hq o
  · intro p hp o; obtain ⟨q, hq, eq⟩ := (mem p hp).1; rw [← eq]; exact c.wF q hq o
  · intro p hp
    rcases (mem p hp).2 with h1 | rfl
    · exact c.wok p h1
    · exact h (c.wok (a, m) (List.mem_append.mpr (.inr (.head _))))
theorem Core.put {a : Addr} {m m' : MO} {W₁ W₂ : Wld} {h' : Heap} {t : Nat} (c : Core D F G (W₁ ++ (a, m) :: W₂) s) (hs : Heap.SameBut a s.heap h') (hm : m'.Is G h' a) : Core D F G (W₁ ++ (a, m') :: W₂) { s with heap := h', toks := t } := by
  have mema : (a, m) ∈ W₁ ++ (a, m) :: W₂ := List.mem_append.mpr (.inr (.head _))
  have keep : ∀ b o, b ≠ a → s.heap.get? b = some o → h'.get? b = some o := fun b o hb e => (hs.2 b hb).trans e
  have e : (W₁ ++ (a, m') :: W₂).map (·.1) = (W₁ ++ (a, m) :: W₂).map (·.1) := by simp
  have nd := c.nd
  have mem : ∀ p ∈ W₁ ++ (a, m') :: W₂, (∃ q ∈ W₁ ++ (a, m) :: W₂, q.1 = p.1) ∧ ((p ∈ W₁ ++ (a, m) :: W₂ ∧ p.1 ≠ a) ∨ p = (a, m')) := by
    intro p hp
    rw [List.map_append, List.map_cons, List.nodup_append] at nd
    obtain ⟨_, n2, n3⟩ := nd
    rw [List.nodup_cons] at n2
    rcases List.mem_append.mp hp with hp | hp
    · exact ⟨⟨p, List.mem_append.mpr (.inl hp), rfl⟩, .inl ⟨List.mem_append.mpr (.inl hp), n3 _ (List.mem_map_of_mem hp) _ (.head _)⟩⟩
    · rcases List.mem_cons.mp hp with rfl | hp
      · exact ⟨⟨(a, m), mema, rfl⟩, .inr rfl⟩
      · exact ⟨⟨p, List.mem_append.mpr (.inr (.tail _ hp)), rfl⟩, .inl ⟨List.mem_append.mpr (.inr (.tail _ hp)), fun q => n2.1 (List.mem_map.mpr ⟨p, hp, q⟩)⟩⟩
  refine ⟨c.base, ?_, ?_, c.apart, ?_, ?_, e ▸ c.nd, ?_, c.gens, c.os⟩
  · intro b o g; exact keep b o (fun q => c.wG _ mema o (q ▸ g)) (c.inn b o g)
  · intro b o g; exact keep b o (fun q => c.wF _ mema o (q ▸ g)) (c.frn b o g)
  · intro p hp o; obtain ⟨q, hq, eq⟩ := (mem p hp).1; rw [← eq]; exact c.wG q hq o
  · intro p hp o; obtain ⟨q, hq, eq⟩ := (mem p hp).1; rw [← eq]; exact c.wF q hq o
  · intro p hp
    rcases (mem p hp).2 with ⟨h1, h2⟩ | rfl
    · exact MO.mv Led.le.rfl (fun o e => keep _ o h2 e) (c.wok p h1)
    · exact hm
noncomputable def foreign (F : Led) (h : Heap) (W : Wld) : Led := fun a o => F a o ∨ ((∃ p ∈ W, p.1 = a) ∧ h.get? a = some o)
theorem Core.shut {W₁ W₂ : Wld} (c : Core D F G (W₁ ++ W₂) s) : Core D (foreign F s.heap W₁) G W₂ s := by
  have nd := c.nd
  rw [List.map_append, List.nodup_append] at nd
  refine ⟨c.base, c.inn, fun a o f => f.elim (c.frn a o) fun h => h.2, fun a o o' g f => f.elim (c.apart a o o' g) fun ⟨⟨p, hp, e⟩, _⟩ => c.wG p (List.mem_append.mpr (.inl hp)) o (e ▸ g),
    fun p hp => c.wG p (List.mem_append.mpr (.inr hp)), fun p hp o f => f.elim (c.wF p (List.mem_append.mpr (.inr hp)) o) fun ⟨⟨q, hq, e⟩, _⟩ => nd.2.2 _ (List.mem_map_of_mem hq) _ (List.mem_map_of_mem hp) e,
    nd.2.1, fun p hp => c.wok p (List.mem_append.mpr (.inr hp)), c.gens, c.os⟩
theorem Core.open {W₁ W₂ W₂' : Wld} {G' : Led} {s' : Shared} (c : Core D F G (W₁ ++ W₂) s) (l : G.le G') (c' : Core D (foreign F s.heap W₁) G' W₂' s') : Core D F G' (W₁ ++ W₂') s' := by
  have nd := c.nd
  rw [List.map_append, List.nodup_append] at nd
  have old : ∀ p ∈ W₁, ∃ o, s.heap.get? p.1 = some o ∧ foreign F s.heap W₁ p.1 o := fun p hp => by
    obtain ⟨o, e⟩ := MO.has (c.wok p (List.mem_append.mpr (.inl hp)))
    exact ⟨o, e, .inr ⟨⟨p, hp, rfl⟩, e⟩⟩
  refine ⟨c'.base, c'.inn, fun a o f => c'.frn a o (.inl f), fun a o o' g f => c'.apart a o o' g (.inl f), ?_, ?_, ?_, ?_, c'.gens, c'.os⟩
  · intro p hp o g
    rcases List.mem_append.mp hp with hp | hp
    · obtain ⟨o', _, f⟩ := old p hp; exact c'.apart _ _ _ g f
    · exact c'.wG p hp o g
  · intro p hp o f
    rcases List.mem_append.mp hp with hp | hp
    · exact c.wF p (List.mem_append.mpr (.inl hp)) o f
    · exact c'.wF p hp o (.inl f)
  · rw [List.map_append, List.nodup_append]
    refine ⟨nd.1, c'.nd, fun a ha b hb e => ?_⟩
    obtain ⟨p, hp, rfl⟩ := List.mem_map.mp ha
    obtain ⟨q, hq, rfl⟩ := List.mem_map.mp hb
    obtain ⟨o, _, f⟩ := old p hp
    exact c'.wF q hq o (e ▸ f)
  · intro p hp
    rcases List.mem_append.mp hp with h1 | h1
    · obtain ⟨o, e, f⟩ := old p h1
      refine MO.mv l (fun o' e' => ?_) (c.wok p (List.mem_append.mpr (.inl h1)))
      rw [e] at e'; cases e'
      exact c'.frn _ _ f
    · exact c'.wok p h1
end
structure Room (A : Around) (n : Nat) : Prop where
  handled : A.handled = none
  depth : A.depth + n + 200 < recursionLimit
  units : A.units + 16 * n < cLine
theorem Room.deeper {A : Around} {n : Nat} {env : Env} (r : Room A (n + 1)) : Room (A.deeper env) n := ⟨r.handled, by have := r.depth; show A.depth + 1 + n + 200 < _; lia, by have := r.units; show A.units + 3 + 16 * n < _; lia⟩
theorem Room.mono {A : Around} {n m : Nat} (r : Room A n) (h : m ≤ n) : Room A m := ⟨r.handled, by have := r.depth; lia, by have := r.units; lia⟩
theorem Room.in1 {A : Around} {n : Nat} (r : Room A (n + 1)) : Room A.in1 n := ⟨r.handled, by have := r.depth; show A.depth + n + 200 < _; lia, by have := r.units; show A.units + 1 + 16 * n < _; lia⟩
theorem Room.d {A : Around} {n : Nat} (r : Room A n) : A.depth < recursionLimit := by have := r.depth; lia
noncomputable def EvalR (D : Wd) (n : Nat) (env : Env) (W : Wld) (e : Expr) (p : PV) (W' : Wld) : Prop :=
  ∀ (A : Around) (F G : Led) (s : Shared) (Q : Value → Shared → Prop) (E : Value → Shared → Prop), Room A n → Core D F G W s → (∀ G' v s', G.le G' → Core D F G' W' s' → Rep G' v p → Q v s') →
    wpAny (model D.prog D.w) A (eval e env) Q E s
noncomputable def TestR (D : Wd) (n : Nat) (env : Env) (W : Wld) (e : Expr) (b : Bool) (W' : Wld) : Prop :=
  ∀ (A : Around) (F G : Led) (s : Shared) (Q : Bool → Shared → Prop) (E : Value → Shared → Prop), Room A n → Core D F G W s → (∀ G' s', G.le G' → Core D F G' W' s' → Q b s') →
    wpAny (model D.prog D.w) A (isTrue e env (eval e env)) Q E s
inductive Out where
  | next (W : Wld)
  | brk (W : Wld)
  | cont (W : Wld)
  | ret (p : PV) (W : Wld)
noncomputable def Out.post (D : Wd) (F G : Led) (Q : Flow → Shared → Prop) : Out → Prop
  | .next W => ∀ G' s', G.le G' → Core D F G' W s' → Q .next s'
  | .brk W => ∀ G' s', G.le G' → Core D F G' W s' → Q .brk s'
  | .cont W => ∀ G' s', G.le G' → Core D F G' W s' → Q .cont s'
  | .ret p W => ∀ G' v s', G.le G' → Core D F G' W s' → Rep G' v p → Q (.ret v) s'
theorem Out.post_le {D : Wd} {F G G' : Led} {Q : Flow → Shared → Prop} (l : G.le G') : ∀ {o : Out}, o.post D F G Q → o.post D F G' Q
  | .next _, h => fun G'' s' l' => h G'' s' (l.trans l')
  | .brk _, h => fun G'' s' l' => h G'' s' (l.trans l')
  | .cont _, h => fun G'' s' l' => h G'' s' (l.trans l')
  | .ret _ _, h => fun G'' v s' l' => h G'' v s' (l.trans l')
noncomputable def ExecR (D : Wd) (n : Nat) (env : Env) (W : Wld) (b : List Stmt) (o : Out) : Prop :=
  ∀ (A : Around) (F G : Led) (s : Shared) (Q : Flow → Shared → Prop) (E : Value → Shared → Prop), Room A n → Core D F G W s → o.post D F G Q → wpAny (model D.prog D.w) A (execs b env) Q E s
noncomputable def ExecS (D : Wd) (n : Nat) (env : Env) (W : Wld) (b : Stmt) (o : Out) : Prop :=
  ∀ (A : Around) (F G : Led) (s : Shared) (Q : Flow → Shared → Prop) (E : Value → Shared → Prop), Room A n → Core D F G W s → o.post D F G Q → wpAny (model D.prog D.w) A (exec b env) Q E s
noncomputable def CallR (D : Wd) (n : Nat) (W : Wld) (f : Value) (as : List PV) (kw : List (PySem.Str × PV)) (p : PV) (W' : Wld) : Prop :=
  ∀ (A : Around) (F G : Led) (s : Shared) (vs : List Value) (ks : List (PySem.Str × Value)) (Q : Value → Shared → Prop) (E : Value → Shared → Prop), Room A n → Core D F G W s → RepAll G vs as → ks.map (·.1) = kw.map (·.1) → RepAll G (ks.map (·.2)) (kw.map (·.2)) →
    (∀ G' v s', G.le G' → Core D F G' W' s' → Rep G' v p → Q v s') → wpAny (model D.prog D.w) A (call f vs ks) Q E s
end

section
open PySem PySem.W PyProof.Rows
section
-- the written part of the heap alone: the head's own run is left for the end
local macro_rules | `(tactic| o_head $H) => `(tactic| assumption)
set_option maxRecDepth 100000 in
theorem kk (h : PySem.Challenge.rw_pd0202_01.row.Holds) : PySem.Challenge.rw_pd0202_01.row.Holds := by
  w_on
  k_head
end
end

section
abbrev Path := List Bool
noncomputable def cov (w r : Path) : Nat := if r <:+ w then 1 else 0
noncomputable def tot (w : Path) (l : List Path) : Nat := (l.map (cov w)).sum
noncomputable def sz (r : Path) : Nat := 2 ^ (10 - r.length)
noncomputable def szs (l : List Path) : Nat := (l.map sz).sum
theorem tot_nil (w : Path) : tot w [] = 0 := rfl
theorem tot_cons (w r : Path) (l : List Path) : tot w (r :: l) = cov w r + tot w l := by simp [tot]
theorem tot_append (w : Path) (l l' : List Path) : tot w (l ++ l') = tot w l + tot w l' := by simp [tot]
theorem szs_cons (r : Path) (l : List Path) : szs (r :: l) = sz r + szs l := by simp [szs]
theorem szs_append (l l' : List Path) : szs (l ++ l') = szs l + szs l' := by simp [szs]
theorem cov_one {w r : Path} (h : r <:+ w) : cov w r = 1 := if_pos h
theorem suffix_eq {a b w : Path} (ha : a <:+ w) (hb : b <:+ w) (h : a.length = b.length) : a = b :=
  (List.suffix_of_suffix_length_le ha hb (by lia)).eq_of_length h
theorem cov_split {w r : Path} (h : r.length < w.length) : cov w r = cov w (false :: r) + cov w (true :: r) := by
  by_cases hr : r <:+ w
  · rw [cov_one hr]
    obtain ⟨t, rfl⟩ := hr
    have ht : t ≠ [] := by rintro rfl; simp at h
    obtain ⟨t', b, rfl⟩ : ∃ t' b, t = t' ++ [b] := ⟨t.dropLast, t.getLast ht, (List.dropLast_concat_getLast ht).symm⟩
    have hs : (b :: r) <:+ (t' ++ [b] ++ r) := ⟨t', by simp⟩
    have hn : ¬ ((!b) :: r) <:+ (t' ++ [b] ++ r) := fun h' => by
      have := suffix_eq hs h' rfl
      simp at this
    cases b
    · have hn' : ¬ (true :: r) <:+ (t' ++ [false] ++ r) := hn
      rw [cov_one hs]; unfold cov; rw [if_neg hn']
    · have hn' : ¬ (false :: r) <:+ (t' ++ [true] ++ r) := hn
      rw [cov_one hs]; unfold cov; rw [if_neg hn']
  · have h1 : ∀ b, ¬ (b :: r) <:+ w := fun b hb => hr ((List.suffix_cons b r).trans hb)
    unfold cov
    rw [if_neg hr, if_neg (h1 _), if_neg (h1 _)]
theorem ext10 {r : Path} (h : r.length ≤ 10) : ∃ w, r <:+ w ∧ w.length = 10 := ⟨List.replicate (10 - r.length) false ++ r, ⟨_, rfl⟩, by rw [List.length_append, List.length_replicate]; lia⟩
theorem tot_mem {w r : Path} {l : List Path} (h : r ∈ l) (hs : r <:+ w) : 1 ≤ tot w l := by
  induction l with
  | nil => cases h
  | cons a l ih =>
    rw [tot_cons]
    rcases List.mem_cons.mp h with rfl | h
    · rw [cov_one hs]; lia
    · have := ih h; lia
theorem tot_two {w r r' : Path} {l : List Path} (h : r ∈ l) (h' : r' ∈ l) (hne : r ≠ r') (hs : r <:+ w) (hs' : r' <:+ w) : 2 ≤ tot w l := by
  induction l with
  | nil => cases h
  | cons a l ih =>
    rw [tot_cons]
    rcases List.mem_cons.mp h with rfl | h1
    · rcases List.mem_cons.mp h' with e | h2
      · exact absurd e.symm hne
      · have := tot_mem h2 hs'; rw [cov_one hs]; lia
    · rcases List.mem_cons.mp h' with rfl | h2
      · have := tot_mem h1 hs; rw [cov_one hs']; lia
      · have := ih h1 h2; lia
theorem tot_at {w : Path} {l : List Path} (h : 0 < tot w l) : ∃ r ∈ l, r <:+ w := by
  induction l with
  | nil => simp [tot] at h
  | cons a l ih =>
    rw [tot_cons] at h
    by_cases ha : a <:+ w
    · exact ⟨a, .head _, ha⟩
    · have : cov w a = 0 := if_neg ha
      obtain ⟨r, hr, hs⟩ := ih (by lia)
      exact ⟨r, .tail _ hr, hs⟩
noncomputable def growP (y : Path) : Nat → Path × List Path
  | 0 => (y, [])
  | m + 1 => (false :: (growP y m).1, (true :: (growP y m).1) :: (growP y m).2)
theorem growP_len1 (y : Path) : ∀ m, (growP y m).1.length = y.length + m
  | 0 => rfl
  | m + 1 => by show (growP y m).1.length + 1 = _; rw [growP_len1 y m]; lia
theorem growP_mem (y : Path) : ∀ m r, r ∈ (growP y m).2 → y.length < r.length ∧ r.length ≤ y.length + m
  | 0, r, h => by simp [growP] at h
  | m + 1, r, h => by
    rcases List.mem_cons.mp h with rfl | h
    · rw [List.length_cons, growP_len1]; lia
    · have := growP_mem y m r h; lia
theorem growP_desc (y : Path) : ∀ m, (growP y m).2.Pairwise fun a b => b.length < a.length
  | 0 => .nil
  | m + 1 => .cons (fun r h => by rw [List.length_cons, growP_len1]; have := growP_mem y m r h; lia) (growP_desc y m)
theorem growP_tot (y w : Path) : ∀ m, y.length + m ≤ w.length → cov w (growP y m).1 + tot w (growP y m).2 = cov w y
  | 0, _ => by simp [growP, tot]
  | m + 1, h => by
    have ih := growP_tot y w m (by lia)
    show cov w (false :: (growP y m).1) + tot w ((true :: (growP y m).1) :: (growP y m).2) = _
    rw [tot_cons, ← ih, cov_split (r := (growP y m).1) (by rw [growP_len1]; lia)]
    lia
theorem growP_sz (y : Path) : ∀ m, y.length + m ≤ 10 → sz (growP y m).1 + szs (growP y m).2 = sz y
  | 0, _ => by simp [growP, szs]
  | m + 1, h => by
    have ih := growP_sz y m (by lia)
    have e : sz (growP y m).1 = 2 * 2 ^ (10 - (y.length + m + 1)) := by
      unfold sz
      rw [growP_len1, ← Nat.pow_succ']
      congr 1; lia
    have e1 : ∀ b, sz (b :: (growP y m).1) = 2 ^ (10 - (y.length + m + 1)) := fun b => by unfold sz; rw [List.length_cons, growP_len1]
    show sz (false :: (growP y m).1) + szs ((true :: (growP y m).1) :: (growP y m).2) = _
    rw [szs_cons, e1, e1, ← ih, e]
    lia
structure Inv (F G : List Path) (left : Nat) : Prop where
  desc : F.Pairwise fun a b => b.length < a.length
  le : ∀ r ∈ F, r.length ≤ 10
  leG : ∀ r ∈ G, r.length ≤ 10
  part : ∀ w : Path, w.length = 10 → tot w F + tot w G = 1
  sum : szs F = left
theorem inv0 : Inv [[]] [] 1024 where
  desc := .cons (fun _ h => nomatch h) .nil
  le r h := by rw [List.mem_singleton.mp h]; simp
  leG r h := nomatch h
  part w h := by simp [tot, cov]
  sum := rfl
theorem cutAt {F : List Path} {k : Nat} {y : Path} (h : F[k]? = some y) : F = F.take k ++ y :: F.drop (k + 1) := by
  obtain ⟨hk, e⟩ := List.getElem?_eq_some_iff.mp h
  rw [← e, ← List.drop_eq_getElem_cons hk, List.take_append_drop]
theorem Inv.give {F G : List Path} {left d k m : Nat} {y : Path} (h : Inv F G left) (hk : F[k]? = some y) (hf : ∀ j < k, ∀ z, F[j]? = some z → d < z.length) (hd : d = y.length + m) (hd10 : d ≤ 10) :
    2 ^ (10 - d) ≤ left ∧ Inv (F.take k ++ (growP y m).2 ++ F.drop (k + 1)) (G ++ [(growP y m).1]) (left - 2 ^ (10 - d)) := by
  have e := cutAt hk
  have hdesc := h.desc
  rw [e] at hdesc
  rw [List.pairwise_append] at hdesc
  obtain ⟨p1, p2, p3⟩ := hdesc
  rw [List.pairwise_cons] at p2
  obtain ⟨p4, p5⟩ := p2
  have hs : szs F = szs (F.take k) + (sz y + szs (F.drop (k + 1))) := by
    conv => lhs; rw [e]
    rw [szs_append, szs_cons]
  have ht : ∀ w, tot w F = tot w (F.take k) + (cov w y + tot w (F.drop (k + 1))) := fun w => by
    conv => lhs; rw [e]
    rw [tot_append, tot_cons]
  have hg := growP_sz y m (by lia)
  have hg1 : sz (growP y m).1 = 2 ^ (10 - d) := by unfold sz; rw [growP_len1, hd]
  have hsum := h.sum
  have htake : ∀ r ∈ F.take k, d < r.length := fun r hr => by
    obtain ⟨j, hj, rfl⟩ := List.getElem_of_mem hr
    have hj' : j < k := by rw [List.length_take] at hj; lia
    refine hf j hj' _ ?_
    rw [List.getElem_take, List.getElem?_eq_getElem]
  have hy : y ∈ F := by rw [e]; exact List.mem_append.mpr (.inr (.head _))
  refine ⟨by lia, ?_, ?_, ?_, ?_, ?_⟩
  · rw [List.pairwise_append, List.pairwise_append]
    refine ⟨⟨p1, growP_desc y m, fun a ha b hb => ?_⟩, p5, fun a ha b hb => ?_⟩
    · have := htake a ha; have := growP_mem y m b hb; lia
    · have hb' := p4 b hb
      rcases List.mem_append.mp ha with ha | ha
      · exact p3 a ha b (.tail _ hb)
      · have := growP_mem y m a ha; lia
  · intro r hr
    rcases List.mem_append.mp hr with hr | hr
    · rcases List.mem_append.mp hr with hr | hr
      · exact h.le r (List.mem_of_mem_take hr)
      · have := growP_mem y m r hr; lia
    · exact h.le r (List.mem_of_mem_drop hr)
  · intro r hr
    rcases List.mem_append.mp hr with hr | hr
    · exact h.leG r hr
    · rw [List.mem_singleton.mp hr, growP_len1]; lia
  · intro w hw
    have h1 := h.part w hw
    have h2 := growP_tot y w m (by lia)
    have h3 := ht w
    rw [tot_append, tot_append, tot_append, tot_cons, tot_nil]
    lia
  · rw [szs_append, szs_append]
    lia
noncomputable def topLen (d : Nat) : List Path → Nat
  | [] => d
  | a :: _ => a.length
theorem szs_lt : ∀ (F : List Path) (d D : Nat), F.Pairwise (fun a b => b.length < a.length) → (∀ r ∈ F, d < r.length ∧ r.length ≤ 10) → d ≤ 10 → D = topLen d F → szs F + 2 ^ (10 - D) ≤ 2 ^ (10 - d)
  | [], d, D, _, _, _, e => by subst e; simp [szs]
  | a :: F, d, D, hp, hm, hd, e => by
    have e : D = a.length := e
    subst e
    rw [List.pairwise_cons] at hp
    have ih := szs_lt F d _ hp.2 (fun r hr => hm r (.tail _ hr)) hd rfl
    have ha := hm a (.head _)
    rw [szs_cons]
    have e2 : sz a = 2 ^ (10 - a.length) := rfl
    have hlt : topLen d F < a.length := by
      cases F with
      | nil => exact ha.1
      | cons b F => exact hp.1 b (.head _)
    have hpow : 2 ^ (10 - a.length) + 2 ^ (10 - a.length) ≤ 2 ^ (10 - topLen d F) := by
      rw [← Nat.two_mul, ← Nat.pow_succ']
      exact Nat.pow_le_pow_right (by lia) (by lia)
    lia
theorem Inv.small {F G : List Path} {left d : Nat} (h : Inv F G left) (hd : d ≤ 10) (hno : ∀ y ∈ F, d < y.length) : left < 2 ^ (10 - d) := by
  have h1 := szs_lt F d _ h.desc (fun r hr => ⟨hno r hr, h.le r hr⟩) hd rfl
  rw [h.sum] at h1
  have : 0 < 2 ^ (10 - topLen d F) := Nat.pow_pos (by lia)
  lia
theorem desc_short : ∀ (F : List Path) (n : Nat), F.Pairwise (fun a b => b.length < a.length) → (∀ r ∈ F, r.length < n) → F.length ≤ n
  | [], n, _, _ => by simp
  | a :: F, n, hp, hm => by
    rw [List.pairwise_cons] at hp
    have := desc_short F a.length hp.2 hp.1
    have := hm a (.head _)
    rw [List.length_cons]; lia
noncomputable def sib : Path → Path
  | [] => []
  | b :: r => (!b) :: r
theorem sib_length (p : Path) : (sib p).length = p.length := by cases p <;> rfl
theorem sib_sib (p : Path) : sib (sib p) = p := by cases p <;> simp [sib]
inductive BackQ : List Path → Path → List Path → Prop
  | root {F : List Path} : BackQ F [] (F ++ [[]])
  | alone {F : List Path} {b : Bool} {r : Path} : sib (b :: r) ∉ F → BackQ F (b :: r) (F ++ [b :: r])
  | merge {F F' : List Path} {b : Bool} {r : Path} : sib (b :: r) ∈ F → BackQ (F.filter (· != sib (b :: r))) r F' → BackQ F (b :: r) F'
theorem BackQ.total : ∀ (p : Path) (F : List Path), ∃ F', BackQ F p F'
  | [], F => ⟨_, .root⟩
  | b :: r, F => by
    by_cases h : sib (b :: r) ∈ F
    · obtain ⟨F', h'⟩ := BackQ.total r (F.filter (· != sib (b :: r)))
      exact ⟨F', .merge h h'⟩
    · exact ⟨_, .alone h⟩
theorem BackQ.length {F F' : List Path} {p : Path} (h : BackQ F p F') : F'.length ≤ F.length + 1 := by
  induction h with
  | root => simp
  | alone _ => simp
  | merge _ _ ih => exact Nat.le_trans ih (Nat.succ_le_succ (List.length_filter_le _ _))
noncomputable def Red (F : List Path) : Prop := ∀ r ∈ F, r ≠ [] → sib r ∉ F
structure Bak (F R : List Path) : Prop where
  red : Red F
  le : ∀ r ∈ F, r.length ≤ 10
  part : ∀ w : Path, w.length = 10 → tot w F + tot w R = 1
theorem tot_filter (w o : Path) (F : List Path) : tot w F = tot w (F.filter (· != o)) + F.count o * cov w o := by
  induction F with
  | nil => simp [tot]
  | cons a F ih =>
    rw [tot_cons, List.filter_cons, List.count_cons, ih]
    by_cases h : a = o
    · subst h; simp [Nat.add_mul]; lia
    · have h1 : (a != o) = true := by simpa using h
      have h2 : (a == o) = false := by simpa using h
      rw [h1, h2, if_pos rfl, tot_cons]; simp; lia
theorem BackQ.keeps {F F' R : List Path} {p : Path} (h : BackQ F p F') (hp : p.length ≤ 10) (hr : Red F) (hl : ∀ r ∈ F, r.length ≤ 10) (ht : ∀ w : Path, w.length = 10 → tot w F + cov w p + tot w R = 1) : Bak F' R := by
  induction h with
  | @root F =>
    refine ⟨fun r hm hne hs => ?_, fun r hm => ?_, fun w hw => ?_⟩
    · have h1 : r ∈ F := (List.mem_append.mp hm).elim id fun h => absurd (List.mem_singleton.mp h) hne
      rcases List.mem_append.mp hs with h2 | h2
      · exact hr r h1 hne h2
      · have := List.mem_singleton.mp h2
        cases r with
        | nil => exact hne rfl
        | cons b r => simp [sib] at this
    · rcases List.mem_append.mp hm with h | h
      · exact hl r h
      · rw [List.mem_singleton.mp h]; simp
    · have := ht w hw; rw [tot_append, tot_cons, tot_nil]; lia
  | @alone F b r hn =>
    refine ⟨fun q hm hne hs => ?_, fun q hm => ?_, fun w hw => ?_⟩
    · rcases List.mem_append.mp hm with h1 | h1
      · rcases List.mem_append.mp hs with h2 | h2
        · exact hr q h1 hne h2
        · have := List.mem_singleton.mp h2
          rw [← this, sib_sib] at hn
          exact hn h1
      · have e := List.mem_singleton.mp h1
        subst e
        rcases List.mem_append.mp hs with h2 | h2
        · exact hn h2
        · have := List.mem_singleton.mp h2
          simp [sib] at this
    · rcases List.mem_append.mp hm with h | h
      · exact hl q h
      · rw [List.mem_singleton.mp h]; exact hp
    · have := ht w hw; rw [tot_append, tot_cons, tot_nil]; lia
  | @merge F F' b r hm _ ih =>
    have hlen : (sib (b :: r)).length ≤ 10 := by rw [sib_length]; exact hp
    have hc : F.count (sib (b :: r)) = 1 := by
      obtain ⟨w, hs, hw⟩ := ext10 hlen
      have h1 := ht w hw
      have h2 := tot_filter w (sib (b :: r)) F
      rw [cov_one hs] at h2
      have h3 : 0 < F.count (sib (b :: r)) := List.count_pos_iff.mpr hm
      lia
    refine ih (by rw [List.length_cons] at hp; lia) (fun q h1 h2 h3 => hr q (List.mem_filter.mp h1).1 h2 (List.mem_filter.mp h3).1) (fun q h1 => hl q (List.mem_filter.mp h1).1) fun w hw => ?_
    have h1 := ht w hw
    have h2 := tot_filter w (sib (b :: r)) F
    rw [hc, Nat.one_mul] at h2
    have h3 : cov w r = cov w (b :: r) + cov w (sib (b :: r)) := by
      rw [cov_split (r := r) (by rw [List.length_cons] at hp; lia)]
      cases b <;> simp [sib] <;> lia
    lia
theorem exists_deepest : ∀ (F : List Path), F ≠ [] → ∃ p ∈ F, ∀ q ∈ F, q.length ≤ p.length
  | [], h => absurd rfl h
  | [a], _ => ⟨a, .head _, fun q hq => by rw [List.mem_singleton.mp hq]; exact Nat.le_refl _⟩
  | a :: b :: F, _ => by
    obtain ⟨p, hp, hm⟩ := exists_deepest (b :: F) (by simp)
    by_cases h : p.length ≤ a.length
    · refine ⟨a, .head _, fun q hq => ?_⟩
      rcases List.mem_cons.mp hq with rfl | hq
      · exact Nat.le_refl _
      · have := hm q hq; lia
    · refine ⟨p, .tail _ hp, fun q hq => ?_⟩
      rcases List.mem_cons.mp hq with rfl | hq
      · lia
      · exact hm q hq
theorem Bak.whole {F : List Path} (h : Bak F []) : F = [[]] := by
  have hne : F ≠ [] := by
    rintro rfl
    have := h.part (List.replicate 10 false) (by simp)
    simp [tot] at this
  obtain ⟨p, hp, hm⟩ := exists_deepest F hne
  cases p with
  | cons b r =>
    exfalso
    have hl := h.le _ hp
    obtain ⟨w, hs, hw⟩ := ext10 (r := sib (b :: r)) (by rw [sib_length]; exact hl)
    have h1 := h.part w hw
    rw [tot_nil, Nat.add_zero] at h1
    obtain ⟨q, hq, hqs⟩ := tot_at (by lia : 0 < tot w F)
    by_cases hql : q.length ≤ r.length
    · have hr : r <:+ w := (List.suffix_cons (!b) r).trans hs
      have hqr : q <:+ r := List.suffix_of_suffix_length_le hqs hr hql
      obtain ⟨w', hs', hw'⟩ := ext10 hl
      have h2 := h.part w' hw'
      rw [tot_nil, Nat.add_zero] at h2
      have := tot_two hq hp (by rintro rfl; rw [List.length_cons] at hql; lia) ((hqr.trans (List.suffix_cons b r)).trans hs') hs'
      lia
    · have h2 := hm q hq
      have h3 : q = sib (b :: r) := suffix_eq hqs hs (by rw [sib_length]; rw [List.length_cons] at h2 ⊢; lia)
      subst h3
      exact h.red _ hp (by simp) hq
  | nil =>
    have hall : ∀ q ∈ F, q = [] := fun q hq => List.eq_nil_of_length_eq_zero (Nat.le_zero.mp (hm q hq))
    have h1 := h.part (List.replicate 10 false) (by simp)
    rw [tot_nil, Nat.add_zero] at h1
    match F, hne with
    | a :: F', _ =>
      have ha := hall a (.head _)
      subst ha
      cases F' with
      | nil => rfl
      | cons c F'' =>
        have hc := hall c (.tail _ (.head _))
        subst hc
        rw [tot_cons, tot_cons] at h1
        have : cov (List.replicate 10 false) [] = 1 := cov_one (List.nil_suffix)
        lia
inductive BackLQ : List Path → List Path → List Path → Prop
  | nil {F : List Path} : BackLQ F [] F
  | cons {F F' R' : List Path} {p : Path} {ps : List Path} : BackQ F p F' → BackLQ F' ps R' → BackLQ F (p :: ps) R'
theorem backAll : ∀ (ps F : List Path), (∀ p ∈ ps, p.length ≤ 10) → Bak F ps → BackLQ F ps [[]]
  | [], F, _, h => by rw [h.whole]; exact .nil
  | p :: ps, F, hp, h => by
    obtain ⟨F', hb⟩ := BackQ.total p F
    refine .cons hb (backAll ps F' (fun q hq => hp q (.tail _ hq)) (hb.keeps (hp p (.head _)) h.red h.le fun w hw => ?_))
    have := h.part w hw
    rw [tot_cons] at this
    lia
theorem Inv.bak {F G : List Path} {left : Nat} (h : Inv F G left) {ps : List Path} (hps : ∀ w, tot w ps = tot w G) : Bak F ps := by
  refine ⟨fun r hr hne hs => ?_, h.le, fun w hw => by rw [hps]; exact h.part w hw⟩
  have hlen := sib_length r
  have hd := h.desc
  have key : ∀ (F : List Path), F.Pairwise (fun a b => b.length < a.length) → ∀ a ∈ F, ∀ b ∈ F, a.length = b.length → a = b := by
    intro F hF
    induction F with
    | nil => intro a ha; cases ha
    | cons c F ih =>
      rw [List.pairwise_cons] at hF
      intro a ha b hb e
      rcases List.mem_cons.mp ha with e1 | ha1
      · rcases List.mem_cons.mp hb with e2 | hb1
        · rw [e1, e2]
        · have := hF.1 b hb1; rw [e1] at e; lia
      · rcases List.mem_cons.mp hb with e2 | hb1
        · have := hF.1 a ha1; rw [e2] at e; lia
        · exact ih hF.2 a ha1 b hb1 e
  have := key F hd _ hs r hr hlen
  cases r with
  | nil => exact hne rfl
  | cons b r => simp [sib] at this
theorem Inv.apart {F G : List Path} {left : Nat} (h : Inv F G left) {i j : Nat} {x y : Path} (hij : i < j) (hx : G[i]? = some x) (hy : G[j]? = some y) : ¬ x <:+ y ∧ ¬ y <:+ x := by
  obtain ⟨hi, ex⟩ := List.getElem?_eq_some_iff.mp hx
  obtain ⟨hj, ey⟩ := List.getElem?_eq_some_iff.mp hy
  have hsplit : G = G.take j ++ y :: G.drop (j + 1) := cutAt hy
  have hxm : x ∈ G.take j := by
    rw [← ex]
    exact List.mem_take_iff_getElem.mpr ⟨i, by lia, rfl⟩
  have key : ∀ w : Path, w.length = 10 → x <:+ w → y <:+ w → False := fun w hw h1 h2 => by
    have h3 := h.part w hw
    rw [hsplit, tot_append, tot_cons, cov_one h2] at h3
    have := tot_mem hxm h1
    lia
  have hxG : x ∈ G := ex ▸ List.getElem_mem hi
  have hyG : y ∈ G := ey ▸ List.getElem_mem hj
  constructor
  · intro hs
    obtain ⟨w, h1, hw⟩ := ext10 (h.leG y hyG)
    exact key w hw (hs.trans h1) h1
  · intro hs
    obtain ⟨w, h1, hw⟩ := ext10 (h.leG x hxG)
    exact key w hw h1 (hs.trans h1)
end

section
open PySem PySem.W PyProof.Rows PySem.Calls
abbrev Sg := List (PySem.Str × PV)
abbrev Kinds := List (PySem.Str × NameKind)
structure EnvOk (env : Env) (L : Addr) (ns : Kinds) (cl : List (PySem.Str × Addr)) : Prop where
  kind : env.scope.kind = .function
  names : ∀ x, env.kindOf x = ns.lookup x
  locals : env.locals = L
  globals : env.globals = mainGlobals
  builtins : env.builtins = builtinsNs
  cells : env.cells = cl
noncomputable def Put (σ : Sg) (x : PySem.Str) (p : PV) (σ' : Sg) : Prop := ∀ y, σ'.lookup y = if y = x then some p else σ.lookup y
theorem Put.nil {x : PySem.Str} {p : PV} : Put [] x p [(x, p)] := fun y => by
  by_cases h : y = x
  · subst h; simp [List.lookup]
  · have : (y == x) = false := by simpa using h
    simp [List.lookup, this, h]
theorem Put.here {x : PySem.Str} {p q : PV} {σ : Sg} : Put ((x, q) :: σ) x p ((x, p) :: σ) := fun y => by
  by_cases h : y = x
  · subst h; simp [List.lookup]
  · have : (y == x) = false := by simpa using h
    simp [List.lookup, this, h]
theorem Put.there {x k : PySem.Str} {p q : PV} {σ σ' : Sg} (hk : (x == k) = false) (h : Put σ x p σ') : Put ((k, q) :: σ) x p ((k, q) :: σ') := fun y => by
  have hxk : x ≠ k := by simpa using hk
  by_cases e : y = k
  · subst e
    have : ¬ y = x := fun z => hxk z.symm
    simp [List.lookup, this]
  · have : (y == k) = false := by simpa using e
    simp only [List.lookup, this]
    exact h y
theorem look_here {α : Type} {σ : List (PySem.Str × α)} {x : PySem.Str} {p : α} : List.lookup x ((x, p) :: σ) = some p := by simp [List.lookup]
theorem look_there {α : Type} {σ : List (PySem.Str × α)} {x k : PySem.Str} {p q : α} (hk : (x == k) = false) (h : σ.lookup x = some p) : List.lookup x ((k, q) :: σ) = some p := by
  simp only [List.lookup, hk]; exact h
inductive WGet : Wld → Addr → MO → Prop
  | here {a : Addr} {m : MO} {W : Wld} : WGet ((a, m) :: W) a m
  | there {q : Addr × MO} {W : Wld} {a : Addr} {m : MO} : WGet W a m → WGet (q :: W) a m
inductive WPut : Wld → Addr → MO → MO → Wld → Prop
  | here {a : Addr} {m m' : MO} {W : Wld} : WPut ((a, m) :: W) a m m' ((a, m') :: W)
  | there {q : Addr × MO} {W W' : Wld} {a : Addr} {m m' : MO} : WPut W a m m' W' → WPut (q :: W) a m m' (q :: W')
theorem WGet.mem {W : Wld} {a : Addr} {m : MO} (h : WGet W a m) : (a, m) ∈ W := by
  induction h with
  | here => exact .head _
  | there _ ih => exact .tail _ ih
theorem WPut.split {W W' : Wld} {a : Addr} {m m' : MO} (h : WPut W a m m' W') : ∃ W₁ W₂, W = W₁ ++ (a, m) :: W₂ ∧ W' = W₁ ++ (a, m') :: W₂ := by
  induction h with
  | here => exact ⟨[], _, rfl, rfl⟩
  | there _ ih =>
    obtain ⟨W₁, W₂, e1, e2⟩ := ih
    exact ⟨_ :: W₁, W₂, by rw [e1]; rfl, by rw [e2]; rfl⟩
theorem Core.putW {D : Wd} {F G : Led} {W W' : Wld} {s : Shared} {a : Addr} {m m' : MO} {h' : Heap} {t : Nat} (c : Core D F G W s) (hp : WPut W a m m' W') (hs : Heap.SameBut a s.heap h') (hm : m'.Is G h' a) : Core D F G W' { s with heap := h', toks := t } := by
  obtain ⟨W₁, W₂, rfl, rfl⟩ := hp.split
  exact c.put hs hm
theorem Core.tellW {D : Wd} {F G : Led} {W W' : Wld} {s : Shared} {a : Addr} {m m' : MO} (c : Core D F G W s) (hp : WPut W a m m' W') (h : m.Is G s.heap a → m'.Is G s.heap a) : Core D F G W' s := by
  obtain ⟨W₁, W₂, rfl, rfl⟩ := hp.split
  exact c.tell h
theorem WPut.get {W W' : Wld} {a : Addr} {m m' : MO} (h : WPut W a m m' W') : WGet W a m := by
  induction h with
  | here => exact .here
  | there _ ih => exact .there ih
noncomputable def PV.ty : PV → Option String
  | .none => Option.none
  | .bool _ => some "bool"
  | .int _ => some "int"
  | .str _ => some "str"
  | .bytes _ => some "bytes"
  | .list _ => some "list"
  | .tup _ => some "tuple"
  | .slice _ _ => some "slice"
  | .range _ => some "range"
  | .deq => Option.none
  | .con _ => Option.none
section
variable {D : Wd} {n : Nat} {env : Env} {L : Addr} {ns : Kinds} {cl : List (PySem.Str × Addr)} {W W' W₁ W₂ W₃ : Wld} {F G : Led} {s : Shared}
theorem Rep.typeIs {v : Value} {p : PV} {T : String} (c : Core D F G W s) (r : Rep G v p) (h : p.ty = some T) : s.TypeIs v T := by
  cases r with
  | none => cases h
  | bool b => cases h; rfl
  | int i t => cases h; rfl
  | str x t => cases h; rfl
  | bytes x t => cases h; rfl
  | list g k _ _ => cases h; exact ⟨_, c.inn _ _ g, k⟩
  | tup g k _ _ => cases h; exact ⟨_, c.inn _ _ g, k⟩
  | slice g k _ => cases h; exact ⟨_, c.inn _ _ g, k⟩
  | range g => cases h; exact ⟨_, c.inn _ _ g, rfl⟩
  | deq _ _ _ => cases h
  | con v => cases h
theorem Rep.isList {a : Addr} {ps : List PV} (c : Core D F G W s) (r : Rep G (.ref a) (.list ps)) : ∃ vs, s.heap.IsList a vs.toArray ∧ RepAll G vs ps := by
  cases r with
  | list g k d r => exact ⟨_, ⟨_, c.inn _ _ g, k, _, d⟩, r⟩
theorem Rep.isTup {a : Addr} {ps : List PV} (c : Core D F G W s) (r : Rep G (.ref a) (.tup ps)) : ∃ vs, IsTup s.heap a vs.toArray ∧ RepAll G vs ps := by
  cases r with
  | tup g k d r => exact ⟨_, ⟨_, c.inn _ _ g, k, _, d⟩, r⟩
theorem Rep.list_ref {v : Value} {ps : List PV} (r : Rep G v (.list ps)) : ∃ a, v = .ref a := by cases r with | list => exact ⟨_, rfl⟩
theorem Rep.tup_ref {v : Value} {ps : List PV} (r : Rep G v (.tup ps)) : ∃ a, v = .ref a := by cases r with | tup => exact ⟨_, rfl⟩
theorem Rep.int_v {v : Value} {i : Int} (r : Rep G v (.int i)) : ∃ t, v = .int i t := by cases r; exact ⟨_, rfl⟩
theorem Rep.str_v {v : Value} {x : PySem.Str} (r : Rep G v (.str x)) : ∃ t, v = .str x t := by cases r; exact ⟨_, rfl⟩
theorem Rep.bool_v {v : Value} {b : Bool} (r : Rep G v (.bool b)) : v = .bool b := by cases r; rfl
theorem Rep.none_v {v : Value} (r : Rep G v .none) : v = .none := by cases r; rfl
theorem RepAll.nil_v {vs : List Value} (r : RepAll G vs []) : vs = [] := by cases r; rfl
theorem RepAll.cons_v {vs : List Value} {p : PV} {ps : List PV} (r : RepAll G vs (p :: ps)) : ∃ v us, vs = v :: us ∧ Rep G v p ∧ RepAll G us ps := by
  cases r with
  | cons a b => exact ⟨_, _, rfl, a, b⟩
theorem Rep.con_v {v u : Value} (r : Rep G v (.con u)) : u = v := by cases r; rfl
theorem Rep.bytes_v {v : Value} {b : Array UInt8} (r : Rep G v (.bytes b)) : ∃ t, v = .bytes b t := by cases r; exact ⟨_, rfl⟩
theorem Rep.list_v {v : Value} {ps : List PV} (r : Rep G v (.list ps)) : ∃ l o vs m, v = .ref l ∧ G l o ∧ o.cls = .type "list" ∧ o.data = .seq vs.toArray m ∧ RepAll G vs ps := by
  cases r with
  | list g c d rs => exact ⟨_, _, _, _, rfl, g, c, d, rs⟩
theorem Rep.tup_v {v : Value} {ps : List PV} (r : Rep G v (.tup ps)) : ∃ l o vs m, v = .ref l ∧ G l o ∧ o.cls = .type "tuple" ∧ o.data = .seq vs.toArray m ∧ RepAll G vs ps := by
  cases r with
  | tup g c d rs => exact ⟨_, _, _, _, rfl, g, c, d, rs⟩
theorem RepAll.one {vs : List Value} {p : PV} (r : RepAll G vs [p]) : ∃ v, vs = [v] ∧ Rep G v p := by
  obtain ⟨v, us, rfl, a, b⟩ := r.cons_v
  obtain rfl := b.nil_v
  exact ⟨v, rfl, a⟩
theorem RepAll.two {vs : List Value} {p q : PV} (r : RepAll G vs [p, q]) : ∃ v u, vs = [v, u] ∧ Rep G v p ∧ Rep G u q := by
  obtain ⟨v, us, rfl, a, b⟩ := r.cons_v
  obtain ⟨u, rfl, c⟩ := b.one
  exact ⟨v, u, rfl, a, c⟩
theorem EvalR.loc {x : PySem.Str} {pos : Pos} {σ : Sg} {p : PV} (ok : EnvOk env L ns cl) (hk : ns.lookup x = some .local) (hw : WGet W L (.frame σ)) (hs : σ.lookup x = some p)
    (hd : (x == ("__debug__" : PySem.Str)) = false := by decide) : EvalR D n env W (.Name x pos) p W := by
  intro A F G s Q E r c q
  obtain ⟨m, hn, hm⟩ := c.wok _ hw.mem
  obtain ⟨v, hv, rv⟩ := hm x p hs
  exact wpAny_Name (wpAny_loadName_local ok.kind ((ok.names x).trans hk) (ok.locals.symm ▸ hn) hv (q G v s Led.le.rfl c rv)) hd
theorem EvalR.cell {x : PySem.Str} {pos : Pos} {a : Addr} {p : PV} (ok : EnvOk env L ns cl) (hk : ns.lookup x = some .cell) (hc : cl.lookup x = some a) (hw : WGet W a (.cell (some p)))
    (hd : (x == ("__debug__" : PySem.Str)) = false := by decide) : EvalR D n env W (.Name x pos) p W := by
  intro A F G s Q E r c q
  obtain ⟨v', hi, hv⟩ := c.wok _ hw.mem
  obtain ⟨v, rfl, rv⟩ := hv p rfl
  exact wpAny_Name (wpAny_loadName_cell ok.kind ((ok.names x).trans hk) (ok.cells.symm ▸ hc) hi (q G v s Led.le.rfl c rv)) hd
theorem EvalR.glob {x : PySem.Str} {pos : Pos} {v : Value} (o : D.Ok) (ok : EnvOk env L ns cl) (hk : ns.lookup x = some .globalImplicit) (hg : D.mg x = some v)
    (hd : (x == ("__debug__" : PySem.Str)) = false := by decide) : EvalR D n env W (.Name x pos) (.con v) W := by
  intro A F G s Q E r c q
  exact Name_function_global ok.kind ((ok.names x).trans hk) (loadGlobal_global (ok.globals.symm ▸ o.g.keeps c.keeps) hg (q G v s Led.le.rfl c (.con v))) hd
theorem EvalR.blt {x : PySem.Str} {pos : Pos} {v : Value} (o : D.Ok) (ok : EnvOk env L ns cl) (hk : ns.lookup x = some .globalImplicit) (hg : D.mg x = none) (hb : bootBuiltins x = some v) (hx : x ≠ "__name__" := by decide)
    (hd : (x == ("__debug__" : PySem.Str)) = false := by decide) : EvalR D n env W (.Name x pos) (.con v) W := by
  intro A F G s Q E r c q
  exact Name_function_global ok.kind ((ok.names x).trans hk) (loadGlobal_builtin (ok.globals.symm ▸ o.g.keeps c.keeps) hg (ok.builtins.symm ▸ o.b.keeps c.keeps) ((o.builtins x hx).trans hb) (q G v s Led.le.rfl c (.con v))) hd
theorem EvalR.int {i : Int} {k : Nat} {pos : Pos} : EvalR D n env W (.Constant (.int i) k pos) (.int i) W := fun A F G s Q E r c q => wpAny_Constant_int (q G _ _ Led.le.rfl (c.toks _) (.int i _))
theorem EvalR.strc {x : PySem.Str} {k : Nat} {pos : Pos} : EvalR D n env W (.Constant (.str x) k pos) (.str x) W := fun A F G s Q E r c q => wpAny_Constant_str (q G _ _ Led.le.rfl (c.toks _) (.str x _))
theorem EvalR.none {k : Nat} {pos : Pos} : EvalR D n env W (.Constant .none k pos) .none W := fun A F G s Q E r c q => wpAny_Constant_none (q G _ _ Led.le.rfl c .none)
theorem EvalR.boolc {b : Bool} {k : Nat} {pos : Pos} : EvalR D n env W (.Constant (.bool b) k pos) (.bool b) W := fun A F G s Q E r c q => wpAny_Constant_bool (q G _ _ Led.le.rfl c (.bool b))
noncomputable def OpR (D : Wd) (n : Nat) (f : Value → Value → Sem Value) (p q r : PV) : Prop :=
  ∀ (A : Around) (F G : Led) (W : Wld) (s : Shared) (a b : Value) (Q : Value → Shared → Prop) (E : Value → Shared → Prop), Room A n → Core D F G W s → Rep G a p → Rep G b q →
    (∀ G' v s', G.le G' → Core D F G' W s' → Rep G' v r → Q v s') → wpAny (model D.prog D.w) A (f a b) Q E s
theorem EvalR.bin {l r : Expr} {op : Operator} {pos : Pos} {p q x : PV} (h1 : EvalR D n env W l p W₁) (h2 : EvalR D n env W₁ r q W₂) (h3 : OpR D n (binaryOp op) p q x) : EvalR D n env W (.BinOp l op r pos) x W₂ := by
  intro A F G s Q E rm c k
  refine wpAny_BinOp (h1 A F G s _ E rm c fun G₁ a s₁ l₁ c₁ ra => h2 A F G₁ s₁ _ E rm c₁ fun G₂ b s₂ l₂ c₂ rb => h3 A F G₂ W₂ s₂ a b Q E rm c₂ (ra.mono l₂) rb fun G₃ v s₃ l₃ c₃ rv => k G₃ v s₃ ((l₁.trans l₂).trans l₃) c₃ rv)
theorem EvalR.cmp {l r : Expr} {op : CmpOp} {pos : Pos} {p q x : PV} (h1 : EvalR D n env W l p W₁) (h2 : EvalR D n env W₁ r q W₂) (h3 : OpR D n (compareOp op) p q x)
    (hm : behindInMarks op r = false := by with_unfolding_all rfl) : EvalR D n env W (.Compare l [op] [r] pos) x W₂ := by
  intro A F G s Q E rm c k
  refine wpAny_Compare1 (h1 A F G s _ E rm c fun G₁ a s₁ l₁ c₁ ra => h2 A F G₁ s₁ _ E rm c₁ fun G₂ b s₂ l₂ c₂ rb => h3 A F G₂ W₂ s₂ a b Q E rm c₂ (ra.mono l₂) rb fun G₃ v s₃ l₃ c₃ rv => k G₃ v s₃ ((l₁.trans l₂).trans l₃) c₃ rv) hm
noncomputable def TruthR (D : Wd) (n : Nat) (p : PV) (b : Bool) : Prop :=
  ∀ (A : Around) (F G : Led) (W : Wld) (s : Shared) (a : Value) (Q : Bool → Shared → Prop) (E : Value → Shared → Prop), Room A n → Core D F G W s → Rep G a p →
    (∀ G' s', G.le G' → Core D F G' W s' → Q b s') → wpAny (model D.prog D.w) A (truthy a) Q E s
theorem TestR.cmp {l r : Expr} {op : CmpOp} {pos : Pos} {p q : PV} {b : Bool} (h1 : EvalR D n env W l p W₁) (h2 : EvalR D n env W₁ r q W₂) (h3 : OpR D n (compareOp op) p q (.bool b))
    (hm : behindInMarks op r = false := by with_unfolding_all rfl) : TestR D n env W (.Compare l [op] [r] pos) b W₂ := by
  intro A F G s Q E rm c k
  refine wpAny_isTrue_Compare1 (h1 A F G s _ E rm c fun G₁ a s₁ l₁ c₁ ra => h2 A F G₁ s₁ _ E rm c₁ fun G₂ b' s₂ l₂ c₂ rb => h3 A F G₂ W₂ s₂ a b' _ E rm c₂ (ra.mono l₂) rb fun G₃ v s₃ l₃ c₃ rv => ?_) hm
  cases rv
  exact wpAny_truthy_bool (k G₃ s₃ ((l₁.trans l₂).trans l₃) c₃)
theorem TestR.val {e : Expr} {p : PV} {b : Bool} (h1 : EvalR D n env W e p W₁) (h2 : TruthR D n p b)
    (he : ∀ whole, isTrue e env whole = (do let v ← whole; standAt e.pos; holding [v] (truthy v)) := by intro _; rfl) : TestR D n env W e b W₁ := by
  intro A F G s Q E rm c k
  exact wpAny_isTrue_value (h1 A F G s _ E rm c fun G₁ a s₁ l₁ c₁ ra => h2 A F G₁ W₁ s₁ a Q E rm c₁ ra fun G₂ s₂ l₂ c₂ => k G₂ s₂ (l₁.trans l₂) c₂) (he _)
theorem TestR.not {e : Expr} {pos : Pos} {b : Bool} (h : TestR D n env W e b W₁) : TestR D n env W (.UnaryOp .Not e pos) (!b) W₁ := by
  intro A F G s Q E rm c k
  exact wpAny_isTrue_Not (h A F G s _ E rm c fun G₁ s₁ l₁ c₁ => k G₁ s₁ l₁ c₁)
inductive AllR (D : Wd) (n : Nat) (env : Env) : Wld → BoolOp → List Expr → Bool → Wld → Prop
  | andNil {W : Wld} : AllR D n env W .And [] true W
  | orNil {W : Wld} : AllR D n env W .Or [] false W
  | andF {W W₁ : Wld} {e : Expr} {r : List Expr} : TestR D n env W e false W₁ → AllR D n env W .And (e :: r) false W₁
  | andT {W W₁ W₂ : Wld} {e : Expr} {r : List Expr} {b : Bool} : TestR D n env W e true W₁ → AllR D n env W₁ .And r b W₂ → AllR D n env W .And (e :: r) b W₂
  | orT {W W₁ : Wld} {e : Expr} {r : List Expr} : TestR D n env W e true W₁ → AllR D n env W .Or (e :: r) true W₁
  | orF {W W₁ W₂ : Wld} {e : Expr} {r : List Expr} {b : Bool} : TestR D n env W e false W₁ → AllR D n env W₁ .Or r b W₂ → AllR D n env W .Or (e :: r) b W₂
theorem AllR.wp {op : BoolOp} {es : List Expr} {b : Bool} (h : AllR D n env W op es b W') : ∀ (A : Around) (F G : Led) (s : Shared) (Q : Bool → Shared → Prop) (E : Value → Shared → Prop), Room A n → Core D F G W s → (∀ G' s', G.le G' → Core D F G' W' s' → Q b s') →
    wpAny (model D.prog D.w) A (allTrue op es env) Q E s := by
  induction h with
  | andNil => exact fun A F G s Q E rm c k => wpAny_allTrue_And_nil (k G s Led.le.rfl c)
  | orNil => exact fun A F G s Q E rm c k => wpAny_allTrue_Or_nil (k G s Led.le.rfl c)
  | andF h => exact fun A F G s Q E rm c k => wpAny_allTrue_And_cons (h A F G s _ E rm c fun G₁ s₁ l₁ c₁ => k G₁ s₁ l₁ c₁)
  | andT h _ ih => exact fun A F G s Q E rm c k => wpAny_allTrue_And_cons (h A F G s _ E rm c fun G₁ s₁ l₁ c₁ => ih A F G₁ s₁ Q E rm c₁ fun G₂ s₂ l₂ c₂ => k G₂ s₂ (l₁.trans l₂) c₂)
  | orT h => exact fun A F G s Q E rm c k => wpAny_allTrue_Or_cons (h A F G s _ E rm c fun G₁ s₁ l₁ c₁ => k G₁ s₁ l₁ c₁)
  | orF h _ ih => exact fun A F G s Q E rm c k => wpAny_allTrue_Or_cons (h A F G s _ E rm c fun G₁ s₁ l₁ c₁ => ih A F G₁ s₁ Q E rm c₁ fun G₂ s₂ l₂ c₂ => k G₂ s₂ (l₁.trans l₂) c₂)
theorem TestR.boolop {op : BoolOp} {es : List Expr} {pos : Pos} {b : Bool} (h : AllR D n env W op es b W') : TestR D n env W (.BoolOp op es pos) b W' := fun A F G s Q E rm c k =>
  wpAny_isTrue_BoolOp (h.wp A F G s Q E rm c k)
theorem EvalR.or2 {x y : Expr} {pos : Pos} {p q : PV} {b : Bool} (h1 : EvalR D n env W x p W₁) (h2 : TruthR D n p b) (h3 : b = false → EvalR D n env W₁ y q W₁) (hq : b = true → q = p) : EvalR D n env W (.BoolOp .Or [x, y] pos) q W₁ := by
  intro A F G s Q E rm c k
  refine wpAny_Or2 (h1 A F G s _ E rm c fun G₁ a s₁ l₁ c₁ ra => h2 A F G₁ W₁ s₁ a _ E rm c₁ ra fun G₂ s₂ l₂ c₂ => ?_)
  cases hb : b with
  | true => rw [hq hb] at k; exact k G₂ a s₂ (l₁.trans l₂) c₂ (ra.mono l₂)
  | false => exact h3 hb A F G₂ s₂ Q E rm c₂ fun G₃ v s₃ l₃ c₃ rv => k G₃ v s₃ ((l₁.trans l₂).trans l₃) c₃ rv
theorem EvalR.ite {test body orelse : Expr} {pos : Pos} {b : Bool} {p : PV} (h1 : TestR D n env W test b W₁) (h2 : b = true → EvalR D n env W₁ body p W₂) (h3 : b = false → EvalR D n env W₁ orelse p W₂) : EvalR D n env W (.IfExp test body orelse pos) p W₂ := by
  intro A F G s Q E rm c k
  refine wpAny_IfExp (h1 A F G s _ E rm c fun G₁ s₁ l₁ c₁ => ?_)
  cases hb : b with
  | true => exact h2 hb A F G₁ s₁ Q E rm c₁ fun G₂ v s₂ l₂ c₂ rv => k G₂ v s₂ (l₁.trans l₂) c₂ rv
  | false => exact h3 hb A F G₁ s₁ Q E rm c₁ fun G₂ v s₂ l₂ c₂ rv => k G₂ v s₂ (l₁.trans l₂) c₂ rv
inductive EvalsR (D : Wd) (n : Nat) (env : Env) : Wld → List Expr → List PV → Wld → Prop
  | nil {W : Wld} : EvalsR D n env W [] [] W
  | cons {W W₁ W₂ : Wld} {e : Expr} {r : List Expr} {p : PV} {ps : List PV} (he : starEach (e :: r) env = (false, eval e env) :: starEach r env) : EvalR D n env W e p W₁ → EvalsR D n env W₁ r ps W₂ → EvalsR D n env W (e :: r) (p :: ps) W₂
theorem EvalsR.wp {es : List Expr} {ps : List PV} {pos : Pos} (h : EvalsR D n env W es ps W') : ∀ (A : Around) (F G : Led) (s : Shared) (Q : List Value → Shared → Prop) (E : Value → Shared → Prop), Room A n → Core D F G W s → (∀ G' vs s', G.le G' → Core D F G' W' s' → RepAll G' vs ps → Q vs s') →
    wpAny (model D.prog D.w) A (spliced (backTo pos (starEach es env))) Q E s := by
  induction h with
  | nil => exact fun A F G s Q E rm c k => wpAny_items_nil (k G [] s Led.le.rfl c .nil)
  | cons he h _ ih => exact fun A F G s Q E rm c k => wpAny_items_cons (h A F G s _ E rm c fun G₁ v s₁ l₁ c₁ rv => ih A F G₁ s₁ _ E rm c₁ fun G₂ vs s₂ l₂ c₂ rs => k G₂ (v :: vs) s₂ (l₁.trans l₂) c₂ (.cons (rv.mono l₂) rs)) he
theorem EvalsR.noStar {es : List Expr} {ps : List PV} {pos : Pos} (h : EvalsR D n env W es ps W') : (backTo pos (starEach es env)).any (·.1) = false ∧ (backTo pos (starEach es env)).all (fun x => !x.1) = true := by
  induction h with
  | nil => exact ⟨rfl, rfl⟩
  | @cons _ _ _ e r _ _ he _ _ ih =>
    rw [he]
    show (false || (backTo pos (starEach r env)).any (·.1)) = false ∧ (true && (backTo pos (starEach r env)).all (fun x => !x.1)) = true
    exact ⟨by rw [ih.1]; rfl, by rw [ih.2]; rfl⟩
theorem EvalsR.len {es : List Expr} {ps : List PV} (h : EvalsR D n env W es ps W') : ps.length = es.length := by
  induction h with
  | nil => rfl
  | cons _ _ _ ih => simp [ih]
theorem EvalR.list {es : List Expr} {pos : Pos} {ps : List PV} (h : EvalsR D n env W es ps W') (hz : es.length ≤ 1000 := by decide) : EvalR D n env W (.List es pos) (.list ps) W' := by
  intro A F G s Q E rm c k
  refine wpAny_List (h.wp A F G s _ E rm c fun G₁ vs s₁ l₁ c₁ rs => ⟨by rw [rs.length, h.len]; exact Nat.le_trans hz (by decide), ?_⟩)
  exact k _ _ _ (l₁.trans Led.le_add) (c₁.made rfl) (.list (.inr ⟨rfl, rfl⟩) rfl rfl (rs.mono Led.le_add))
theorem EvalR.tup {es : List Expr} {k' : Nat} {pos : Pos} {ps : List PV} (h : EvalsR D n env W es ps W') (hz : es.length ≤ 1000 := by decide) : EvalR D n env W (.Tuple es k' pos) (.tup ps) W' := by
  intro A F G s Q E rm c k
  refine wpAny_Tuple (h.wp A F G s _ E rm c fun G₁ vs s₁ l₁ c₁ rs => ⟨by rw [rs.length, h.len]; exact Nat.le_trans hz (by decide), ?_⟩)
  exact k _ _ _ (l₁.trans Led.le_add) (c₁.made rfl) (.tup (.inr ⟨rfl, rfl⟩) rfl rfl (rs.mono Led.le_add))
theorem evalOwnList {es : List Expr} {pos : Pos} {ps : List PV} (h : EvalsR D n env W es ps W') (hz : es.length ≤ 1000) (A : Around) (F G : Led) (s : Shared) (Q : Value → Shared → Prop) (E : Value → Shared → Prop) (rm : Room A n) (c : Core D F G W s)
    (k : ∀ G' a s', G.le G' → Core D F G' ((a, .lst ps) :: W') s' → Q (.ref a) s') : wpAny (model D.prog D.w) A (eval (.List es pos) env) Q E s := by
  refine wpAny_List (h.wp A F G s _ E rm c fun G₁ vs s₁ l₁ c₁ rs => ⟨by rw [rs.length, h.len]; exact Nat.le_trans hz (by decide), ?_⟩)
  exact k _ _ _ l₁ (c₁.new (t := s₁.toks) (Nat.le_refl _) (fun _ _ e => Heap.get?_push_of_some _ e) ⟨vs, ⟨_, _, Heap.get?_push_size _ rfl, rfl, rfl, rfl⟩, rs⟩)
end
end

section
open PySem PySem.W PyProof.Rows PySem.Calls
section
variable {D : Wd} {n : Nat} {env : Env} {L : Addr} {ns : Kinds} {cl : List (PySem.Str × Addr)} {W W' W₁ W₂ W₃ : Wld} {F G : Led} {s : Shared}
theorem callWith_flat {M : Model} {A : Around} {E : Value → Shared → Prop} {s : Shared} {pos : Pos} {f : Value} {first : List Value} {args : List (Bool × Sem Value)} {Q : Value → Shared → Prop} (hf : ∀ a, f ≠ .ref a) (hplain : args.any (·.1) = false)
    (h : wpAny M A (evalArgs f true args []) (fun a s₁ => wpAny M A (call f (first ++ a.pos) a.kw) Q E s₁) E s) :
    wpAny M A (callWith pos f first args []) Q E s := by
  unfold callWith
  refine wpAny_bind (wpAny_holding (wpAny_mono h (fun a s₁ h₁ => wpAny_bind (wpAny_standAt ?_)) fun _ _ x => x))
  rw [hplain]
  have hk : keeperOf f = pure .machine := by
    unfold keeperOf
    cases f <;> first | rfl | exact absurd rfl (hf _)
  rw [hk]
  refine wpAny_bind (wpAny_pure ?_)
  exact wpAny_bind (wpAny_mono h₁ (fun r s₂ hr => wpAny_bind (wpAny_holding (wpAny_point (wpAny_pure hr)))) fun _ _ x => x)
theorem evalArgs_of {M : Model} {A : Around} {E : Value → Shared → Prop} {s : Shared} {f : Value} {args : List (Bool × Sem Value)} {Q : Args → Shared → Prop} (hp : args.any (·.1) = false)
    (h : wpAny M A (spliced args) (fun vs s' => Q ⟨vs, []⟩ s') E s) : wpAny M A (evalArgs f true args []) Q E s := by
  cases args with
  | nil =>
    unfold evalArgs
    show wpAny M A (spliced [] >>= _) Q E s
    refine wpAny_bind (wpAny_mono h (fun vs s' h' => ?_) fun _ _ x => x)
    exact wpAny_bind (wpAny_pure (wpAny_holding (wpAny_bind (wpAny_pure (wpAny_bind (wpAny_pure (wpAny_pure h')))))))
  | cons x r =>
    obtain ⟨b, t⟩ := x
    have hb : b = false := by
      simp only [List.any_cons, Bool.or_eq_false_iff] at hp
      exact hp.1
    subst hb
    exact evalArgs_plain h
noncomputable def Keeper (D : Wd) (f : Value) : Prop := (∀ a, f ≠ .ref a) ∨ ∃ a o fd, f = .ref a ∧ D.B.get? a = some o ∧ o.data = .func fd
theorem callWith_R {f : Value} {first : List Value} {fps : List PV} {args : List Expr} {ps : List PV} {pos : Pos} {r : PV} (hk : Keeper D f) (ha : EvalsR D n env W args ps W₁) (hc : CallR D n W₁ f (fps ++ ps) [] r W')
    (A : Around) (F G : Led) (s : Shared) (Q : Value → Shared → Prop) (E : Value → Shared → Prop) (rm : Room A n) (c : Core D F G W s) (hf : RepAll G first fps) (k : ∀ G' v s', G.le G' → Core D F G' W' s' → Rep G' v r → Q v s') :
    wpAny (model D.prog D.w) A (callWith pos f first (backTo pos (starEach args env)) []) Q E s := by
  have np := (ha.noStar (pos := pos)).1
  have body : wpAny (model D.prog D.w) A (spliced (backTo pos (starEach args env))) (fun vs s₁ => (∀ a o, D.B.get? a = some o → s₁.heap.get? a = some o) ∧ wpAny (model D.prog D.w) A (call f (first ++ vs) []) Q E s₁) E s :=
    ha.wp A F G s _ E rm c fun G₁ vs s₁ l₁ c₁ rs => ⟨c₁.keeps, hc A F G₁ s₁ (first ++ vs) [] Q E rm c₁ ((hf.mono l₁).append rs) rfl .nil fun G₂ v s₂ l₂ c₂ rv => k G₂ v s₂ (l₁.trans l₂) c₂ rv⟩
  rcases hk with hk | ⟨a, o, fd, rfl, ho, hd⟩
  · exact callWith_flat hk np (evalArgs_of np (wpAny_mono body (fun _ _ h => h.2) fun _ _ x => x))
  · exact callWith_function (o := o) (fd := fd) (evalArgs_of np (wpAny_mono body (fun _ _ h => ⟨⟨h.1 _ _ ho, hd⟩, h.2⟩) fun _ _ x => x))
theorem EvalR.call {id : PySem.Str} {p pos : Pos} {args : List Expr} {f : Value} {ps : List PV} {r : PV} (hf : EvalR D n env W (.Name id p) (.con f) W₁) (hk : Keeper D f) (ha : EvalsR D n env W₁ args ps W₂) (hc : CallR D n W₂ f ps [] r W') :
    EvalR D n env W (.Call (.Name id p) args [] pos) r W' := by
  intro A F G s Q E rm c k
  refine wpAny_Call_NameR (hf A F G s _ E rm c fun G₁ fv s₁ l₁ c₁ rf => ?_)
  obtain rfl := Rep.con_v rf
  exact callWith_R (first := []) (fps := []) hk ha hc A F G₁ s₁ Q E rm c₁ .nil fun G₂ v s₂ l₂ c₂ rv => k G₂ v s₂ (l₁.trans l₂) c₂ rv
theorem methodCall_at {M : Model} {A : Around} {E : Value → Shared → Prop} {s : Shared} {o : Expr} {name : PySem.Str} {apos pos : Pos} {args : List Expr} {ov f : Value} {first : List Value} {Q : Value → Shared → Prop}
    (hfew : (backTo pos (starEach args env)).all (fun x => !x.1) = true) (hn : args.length < 30) (hline : (apos.endLine == pos.line) = true)
    (hg : ∀ (pl : Sem Bool) (Q : Value × List Value → Shared → Prop), Q (f, first) s → wpAny M A (getMethod ov name pl) Q E s)
    (h : wpAny M A (callWith pos f first (backTo pos (starEach args env)) []) Q E s) :
    wpAny M A (methodCall o name apos pos env ov (args.length + ([] : List Keyword).length) (backTo pos (starEach args env)) (backToKw pos (keywordEach [] env))) Q E s := by
  have hform : methodCallForm (args.length + ([] : List Keyword).length) (backTo pos (starEach args env)) (backToKw pos (keywordEach [] env)) = true := by
    show ((backTo pos (starEach args env)).all (fun x => !x.1) && (([] : List (Option PySem.Str × Sem Value)).all (fun x => x.1.isSome)) && decide (args.length + 0 + 0 < 30)) = true
    rw [hfew]
    simpa using hn
  have hpos : methodCallPos true o env apos pos = pure pos := by unfold methodCallPos; simp [hline]
  unfold methodCall
  rw [hform]
  refine wpAny_bind (wpAny_holding (hg _ _ ?_))
  exact wpAny_bind (wpAny_of_eq hpos h)
theorem EvalR.meth {o : Expr} {name : PySem.Str} {apos pos : Pos} {args : List Expr} {T id : String} {p r : PV} {ps : List PV} (hbase : ∀ t, attributeBase o name env t = t) (ho : EvalR D n env W o p W₁) (ht : p.ty = some T) (hT : T ≠ "list" ∧ T ≠ "tuple" ∧ T ≠ "slice" ∧ T ≠ "range")
    (pa : PlainAttrs T) (slot : Slot T name id) (hty : typeOf (.builtin id) = pure (.type "method_descriptor")) (ha : EvalsR D n env W₁ args ps W₂) (hc : CallR D n W₂ (.builtin id) (p :: ps) [] r W')
    (hn : args.length < 30 := by decide) (hline : (apos.endLine == pos.line) = true := by rfl) : EvalR D n env W (.Call (.Attribute o name apos) args [] pos) r W' := by
  intro A F G s Q E rm c k
  rw [arm_eval_Call, hbase]
  refine wpAny_bind (ho A F G s _ E rm c fun G₁ ov s₁ l₁ c₁ rv => wpAny_bind (wpAny_standAt ?_))
  refine methodCall_at (first := [ov]) (f := .builtin id) (ha.noStar (pos := pos)).2 hn hline (fun pl Q hq => getMethod_builtin (rv.typeIs c₁ ht) pa slot hty ?_ hq) ?_
  · rintro a rfl
    cases rv <;> simp [PV.ty] at ht
    · exact absurd ht.symm hT.1
    · exact absurd ht.symm hT.2.1
    · exact absurd ht.symm hT.2.2.1
    · exact absurd ht.symm hT.2.2.2
  · exact callWith_R (first := [ov]) (fps := [p]) (.inl fun a e => by cases e) ha hc A F G₁ s₁ Q E rm c₁ (.cons rv .nil) fun G₂ v s₂ l₂ c₂ rv => k G₂ v s₂ (l₁.trans l₂) c₂ rv
theorem EvalR.append {o elt : Expr} {apos pos : Pos} {a : Addr} {ps : List PV} {p : PV} (hbase : ∀ t, attributeBase o "append" env t = t) (ho : EvalR D n env W o (.con (.ref a)) W₁) (he : EvalR D n env W₁ elt p W₂) (hw : WGet W₁ a (.lst ps))
    (hp : WPut W₂ a (.lst ps) (.lst (ps ++ [p])) W') (hst : starEach [elt] env = [(false, eval elt env)]) (hz : ps.length ≤ 1000)
    (hline : (apos.endLine == pos.line) = true := by rfl) : EvalR D n env W (.Call (.Attribute o "append" apos) [elt] [] pos) .none W' := by
  intro A F G s Q E rm c k
  rw [arm_eval_Call, hbase]
  refine wpAny_bind (ho A F G s _ E rm c fun G₁ ov s₁ l₁ c₁ rv => wpAny_bind (wpAny_standAt ?_))
  obtain rfl := rv.con_v
  have hs : EvalsR D n env W₁ [elt] [p] W₂ := .cons (by rw [hst]; rfl) he .nil
  obtain ⟨vs, ⟨ob, m, hob, hc, hd, hdt⟩, _⟩ := c₁.wok _ hw.mem
  refine methodCall_at (first := [.ref a]) (f := .builtin "list.append") (hs.noStar (pos := pos)).2 (show 1 < 30 by decide) hline (fun pl Q hq => getMethod_list_append hob hc hd hq) ?_
  refine callWith_flat (fun a e => by cases e) (hs.noStar (pos := pos)).1 (evalArgs_of (hs.noStar (pos := pos)).1 (hs.wp A F G₁ s₁ _ E rm c₁ fun G₂ us s₂ l₂ c₂ rs => ?_))
  obtain ⟨v, rfl, rv⟩ := rs.one
  · obtain ⟨vs, hl, rvs⟩ := c₂.wok _ hp.get.mem
    refine list_append_plainL hl (fun h' hl' hs' => k G₂ .none _ (l₁.trans l₂) ?_ .none) ?_
    · refine c₂.putW (t := s₂.toks) hp hs' ⟨vs ++ [v], ?_, rvs.append (.cons rv .nil)⟩
      have e : (vs ++ [v]).toArray = vs.toArray.push v := by simp
      rw [e]; exact hl'
    · rw [List.size_toArray, rvs.length]; exact Nat.le_trans hz (by decide)
theorem ExecR.nil : ExecR D n env W [] (.next W) := fun A F G s Q E rm c k => wpAny_execs_nil (k G s Led.le.rfl c)
theorem ExecR.cons {st : Stmt} {r : List Stmt} {o : Out} (h1 : ExecS D n env W st (.next W₁)) (h2 : ExecR D n env W₁ r o) : ExecR D n env W (st :: r) o := by
  intro A F G s Q E rm c k
  exact wpAny_execs_cons (h1 A F G s _ E rm c fun G₁ s₁ l₁ c₁ => h2 A F G₁ s₁ Q E rm c₁ (Out.post_le l₁ k))
noncomputable def Out.stops : Out → Bool
  | .next _ => false
  | _ => true
theorem ExecR.stop {st : Stmt} {r : List Stmt} {o : Out} (h1 : ExecS D n env W st o) (ho : o.stops = true := by rfl) : ExecR D n env W (st :: r) o := by
  intro A F G s Q E rm c k
  refine wpAny_execs_cons (h1 A F G s _ E rm c ?_)
  cases o with
  | next W => cases ho
  | brk W => exact k
  | cont W => exact k
  | ret p W => exact k
theorem ExecS.brk {pos : Pos} : ExecS D n env W (.Break pos) (.brk W) := fun A F G s Q E rm c k => wpAny_Break (k G s Led.le.rfl c)
theorem ExecS.ret {e : Expr} {pos : Pos} {p : PV} (h : EvalR D n env W e p W₁) : ExecS D n env W (.Return (some e) pos) (.ret p W₁) := fun A F G s Q E rm c k => wpAny_Return_some (h A F G s _ E rm c fun G' v s' l c' r => k G' v s' l c' r)
theorem ExecS.if {test : Expr} {body orelse : List Stmt} {pos : Pos} {b : Bool} {o : Out} (h1 : TestR D n env W test b W₁) (h2 : b = true → ExecR D n env W₁ body o) (h3 : b = false → ExecR D n env W₁ orelse o) : ExecS D n env W (.If test body orelse pos) o := by
  intro A F G s Q E rm c k
  refine wpAny_If (h1 A F G s _ E rm c fun G₁ s₁ l₁ c₁ => ?_)
  cases hb : b with
  | true => exact h2 hb A F G₁ s₁ Q E rm c₁ (Out.post_le l₁ k)
  | false => exact h3 hb A F G₁ s₁ Q E rm c₁ (Out.post_le l₁ k)
noncomputable def StoreR (D : Wd) (env : Env) (W : Wld) (x : PySem.Str) (p : PV) (W' : Wld) : Prop :=
  ∀ (A : Around) (F G : Led) (s : Shared) (v : Value) (Q : Unit → Shared → Prop) (E : Value → Shared → Prop), Core D F G W s → Rep G v p → (∀ s', Core D F G W' s' → Q () s') → wpAny (model D.prog D.w) A (storeName env x v) Q E s
theorem StoreR.loc {x : PySem.Str} {σ σ' : Sg} {p : PV} (ok : EnvOk env L ns cl) (hk : ns.lookup x = some .local) (hw : WPut W L (.frame σ) (.frame σ') W') (hp : Put σ x p σ') : StoreR D env W x p W' := by
  intro A F G s v Q E c r k
  obtain ⟨m, hn, hm⟩ := c.wok _ hw.get.mem
  refine wpAny_storeName_local ((ok.names x).trans hk) (ok.locals.symm ▸ hn) (fun h' hn' hs' => ?_) (by rw [ok.kind]; rfl)
  rw [ok.locals] at hn' hs'
  refine k _ (c.putW hw hs' ⟨_, hn', fun y q hq => ?_⟩)
  rw [hp y] at hq
  by_cases e : y = x
  · subst e
    simp only [if_true] at hq ⊢
    cases hq
    exact ⟨v, rfl, r⟩
  · simp only [e, if_false] at hq ⊢
    exact hm y q hq
theorem StoreR.cell {x : PySem.Str} {a : Addr} {q : Option PV} {p : PV} (ok : EnvOk env L ns cl) (hk : ns.lookup x = some .cell) (hc : cl.lookup x = some a) (hw : WPut W a (.cell q) (.cell (some p)) W') : StoreR D env W x p W' := by
  intro A F G s v Q E c r k
  obtain ⟨v', hi, _⟩ := c.wok _ hw.get.mem
  exact wpAny_storeName_cell ok.kind ((ok.names x).trans hk) (ok.cells.symm ▸ hc) hi fun h' hi' hs' => k _ (c.putW (t := s.toks) hw hs' ⟨_, hi', fun q e => by cases e; exact ⟨v, rfl, r⟩⟩)
theorem ExecS.assign {x : PySem.Str} {e : Expr} {pos' pos : Pos} {p : PV} (h1 : EvalR D n env W e p W₁) (h2 : StoreR D env W₁ x p W₂) (hs : swapsWith e (some (.Name x pos')) pos.line env = pure false := by rfl) : ExecS D n env W (.Assign [.Name x pos'] e pos) (.next W₂) := by
  intro A F G s Q E rm c k
  exact wpAny_Assign_Name (h1 A F G s _ E rm c fun G₁ v s₁ l₁ c₁ r => h2 A F G₁ s₁ v _ E c₁ r fun s₂ c₂ => k G₁ s₂ l₁ c₂) hs
theorem ExecS.aug {x : PySem.Str} {op : Operator} {e : Expr} {pos' pos : Pos} {p q r : PV} (h1 : ∀ np, EvalR D n env W (.Name x np) p W) (h2 : EvalR D n env W e q W₁) (h3 : OpR D n (inplaceOp op) p q r) (h4 : StoreR D env W₁ x r W₂)
    (hd : (x == ("__debug__" : PySem.Str)) = false := by decide) : ExecS D n env W (.AugAssign (.Name x pos') op e pos) (.next W₂) := by
  intro A F G s Q E rm c k
  refine wpAny_AugAssign_Name ?_
  intro Γ p hΓ
  have h1' := h1 p A F G s (fun old s₁ => wpAny (model D.prog D.w) A (eval e env) (fun v s₂ => wpAny (model D.prog D.w) A (inplaceOp op old v)
      (fun r s₃ => wpAny (model D.prog D.w) A (storeName env x r) (fun _ => Q .next) E s₃) E s₂) E s₁) E rm c fun G₁ a s₁ l₁ c₁ ra => h2 A F G₁ s₁ _ E rm c₁ fun G₂ b s₂ l₂ c₂ rb =>
        h3 A F G₂ W₁ s₂ a b _ E rm c₂ (ra.mono l₂) rb fun G₃ v s₃ l₃ c₃ rv => h4 A F G₃ s₃ v _ E c₃ rv fun s₄ c₄ => k G₃ s₄ ((l₁.trans l₂).trans l₃) c₄
  rw [eval_Name env x p hd] at h1'
  have := h1' Γ p hΓ
  rw [Sem.wp_bind'] at this
  simpa using this
theorem ExecS.expr {e : Expr} {pos : Pos} (h : EvalR D n env W e .none W₁) (hi : interactive env = false) (hs : swapsWith e none pos.line env = pure false := by rfl) : ExecS D n env W (.Expr e pos) (.next W₁) := by
  intro A F G s Q E rm c k
  refine wpAny_Expr (h A F G s _ E rm c fun G₁ v s₁ l₁ c₁ r => ?_) hi hs
  obtain rfl := r.none_v
  exact k G₁ s₁ l₁ c₁
end
end

section
open PySem PySem.W PyProof.Rows PySem.Calls
theorem EnvOk.inter {env : Env} {L : Addr} {ns : Kinds} {cl : List (PySem.Str × Addr)} (ok : EnvOk env L ns cl) : interactive env = false := by
  unfold interactive
  rw [ok.kind]; rfl
structure FnAt (D : Wd) (f : Addr) (fd : FuncData) (body : List Stmt) : Prop where
  ob : ∃ o, D.B.get? f = some o ∧ o.data = .func fd
  body : fd.body = .stmts body
  code : D.B.CodeRec fd.code fd.qualname
  co : fd.scope.isCoroutine = false
  gen : fd.scope.isGenerator = false
  kind : fd.scope.kind = .function
  glob : fd.globals = mainGlobals
  blt : fd.builtins = builtinsNs
  clos : fd.closure = []
section
variable {D : Wd} {n : Nat} {W W' W₁ W₂ : Wld} {F G : Led} {s : Shared}
theorem CallR.tail {f : Value} {as : List PV} {kw : List (PySem.Str × PV)} {p : PV} (h : CallR D n W f as kw p W') (W₁ : Wld) : CallR D n (W₁ ++ W) f as kw p (W₁ ++ W') := by
  intro A F G s vs ks Q E rm c ra hk rk k
  exact h A (foreign F s.heap W₁) G s vs ks Q E rm c.shut ra hk rk fun G' v s' l c' rv => k G' v s' l (c.open l c') rv
theorem CallR.lift {f : Value} {as : List PV} {kw : List (PySem.Str × PV)} {p : PV} (h : CallR D n [] f as kw p []) : CallR D n W f as kw p W := by
  have := h.tail W
  simpa using this
theorem CallR.mono {m : Nat} {f : Value} {as : List PV} {kw : List (PySem.Str × PV)} {p : PV} (h : CallR D n W f as kw p W') (hm : n ≤ m) : CallR D m W f as kw p W' :=
  fun A F G s vs ks Q E rm => h A F G s vs ks Q E (rm.mono hm)
theorem zip_lookup {G : Led} (xs : List PySem.Str) (vs : List Value) (ps : List PV) (r : RepAll G vs ps) (nd : xs.Nodup) (x : PySem.Str) (p : PV) (h : (xs.zip ps).lookup x = some p) : ∃ v, (xs.zip vs).reverse.lookup x = some v ∧ Rep G v p := by
  refine RepAll.ind (P := fun vs ps => ∀ xs : List PySem.Str, xs.Nodup → (xs.zip ps).lookup x = some p → ∃ v, (xs.zip vs).reverse.lookup x = some v ∧ Rep G v p) (fun xs _ h => ?_) (fun {v q vs ps} r _ ih xs nd h => ?_) r xs nd h
  · rw [List.zip_nil_right] at h
    exact (Option.some_ne_none p (h.symm.trans rfl)).elim
  · cases xs with
    | nil => exact (Option.some_ne_none p (h.symm.trans rfl)).elim
    | cons y xs =>
      rw [List.nodup_cons] at nd
      have nd1 := nd.1
      have nd2 := nd.2
      simp only [List.zip_cons_cons, List.reverse_cons, List.lookup_append] at h ⊢
      by_cases e : x = y
      · rw [e, look_here] at h
        rw [e, List.lookup_eq_none_iff.mpr fun z hz => bne_iff_ne.mpr fun (e : y = z.1) => nd1 (by rw [e]; exact (List.of_mem_zip (a := z.1) (b := z.2) (List.mem_reverse.mp hz)).1)]
        exact ⟨v, look_here, Option.some.inj h ▸ r⟩
      · have e' : (x == y) = false := beq_eq_false_iff_ne.mpr e
        rw [List.lookup_cons, e'] at h
        obtain ⟨u, hu, ru⟩ := ih xs nd2 h
        exact ⟨u, by rw [hu]; rfl, ru⟩
theorem CallR.defn {f : Addr} {fd : FuncData} {body : List Stmt} {as : List PV} {p : PV} (o : D.Ok) (fa : FnAt D f fd body) (xs : List PySem.Str) (hlen : xs.length = as.length) (hnd : xs.Nodup)
    (hbind : ∀ vs : List Value, vs.length = as.length → bindArgs fd ⟨vs, []⟩ = pure (xs.zip vs)) (hcell : ∀ x ∈ fd.scope.names, x.2 ≠ .cell) (hloc : ∀ x ∈ xs, fd.scope.names.lookup x = some .local)
    (h : ∀ (L : Addr) (env : Env), EnvOk env L fd.scope.names [] → ∃ mo, ExecR D n env ((L, .frame (xs.zip as)) :: W) body (.ret p ((L, mo) :: W'))) : CallR D (n + 1) W (.ref f) as [] p W' := by
  intro A F G s vs ks Q E rm c ra hk rk k
  obtain rfl : ks = [] := by simpa using hk
  obtain ⟨ob, ho, hd⟩ := fa.ob
  refine wpAny_call (codeAny_call_def (binds := xs.zip vs) rm.d (c.keeps _ _ ho) hd (o.nolimit.keeps c.keeps) (fa.code.keeps c.keeps) fa.body (BindsTo.of_eq (hbind vs ra.length)) hcell ?_ (fun h₁ hns hkp => ?_) fa.co fa.gen fa.kind)
  · intro x hx
    exact hloc _ (List.of_mem_zip (a := x.1) (b := x.2) hx).1
  · have eo : EnvOk (callEnv fd s.heap.objs.size f) s.heap.objs.size fd.scope.names [] := ⟨fa.kind, fun _ => rfl, rfl, fa.glob, fa.blt, fa.clos⟩
    obtain ⟨mo, hx⟩ := h s.heap.objs.size _ eo
    have c₁ : Core D F G ((s.heap.objs.size, .frame (xs.zip as)) :: W) { s with heap := h₁, toks := s.toks + (xs.zip vs).length } := c.new (Nat.le_refl _) hkp ⟨_, hns, zip_lookup xs vs as ra hnd⟩
    refine wpAny_mono (hx _ F G _ (fun fl s' => ∃ v G', fl = .ret v ∧ G.le G' ∧ Core D F G' W' s' ∧ Rep G' v p) (fun _ _ => False) rm.deeper c₁ ?_) (fun fl s' hq => ?_) fun _ _ e => e.elim
    · intro G' v s' l c' rv
      exact ⟨v, G', rfl, l, c'.pop, rv⟩
    · obtain ⟨v, G', rfl, l, c', rv⟩ := hq
      exact k G' v s' l c' rv
end
end

section
open PySem PySem.W PyProof.Rows PySem.Calls
section
variable {D : Wd} {n : Nat} {env : Env} {L : Addr} {ns : Kinds} {cl : List (PySem.Str × Addr)} {W W' W₁ W₂ W₃ : Wld} {F G : Led} {s : Shared}
theorem OpR.addi {a b : Int} : OpR D n (binaryOp .Add) (.int a) (.int b) (.int (a + b)) := fun A F G W s x y Q E rm c rx ry k => by
  obtain ⟨t1, rfl⟩ := Rep.int_v rx; obtain ⟨t2, rfl⟩ := Rep.int_v ry; with_reducible exact P.add_int (k G _ _ Led.le.rfl (c.toks _) (.int _ _))
theorem OpR.subi {a b : Int} : OpR D n (binaryOp .Sub) (.int a) (.int b) (.int (a - b)) := fun A F G W s x y Q E rm c rx ry k => by
  obtain ⟨t1, rfl⟩ := Rep.int_v rx; obtain ⟨t2, rfl⟩ := Rep.int_v ry; with_reducible exact P.sub_int (k G _ _ Led.le.rfl (c.toks _) (.int _ _))
theorem OpR.floordivi {a b : Int} (hb : b ≠ 0) (hp : Builtin.divisionGoesByPylong a b = false) : OpR D n (binaryOp .FloorDiv) (.int a) (.int b) (.int (a.fdiv b)) := fun A F G W s x y Q E rm c rx ry k => by
  obtain ⟨t1, rfl⟩ := Rep.int_v rx; obtain ⟨t2, rfl⟩ := Rep.int_v ry
  with_reducible exact floordiv_int hb (k G _ _ Led.le.rfl (c.toks _) (.int _ _)) (.inl hp)
theorem OpR.modi {a b : Int} (hb : b ≠ 0) : OpR D n (binaryOp .Mod) (.int a) (.int b) (.int (a.fmod b)) := fun A F G W s x y Q E rm c rx ry k => by
  obtain ⟨t1, rfl⟩ := Rep.int_v rx; obtain ⟨t2, rfl⟩ := Rep.int_v ry; with_reducible exact mod_int hb (k G _ _ Led.le.rfl (c.toks _) (.int _ _))
theorem OpR.powi {a b : Int} (hn : 0 ≤ b) (hn2 : b ≤ 1000000) (ha : a.natAbs < 2 ^ 64) : OpR D n (binaryOp .Pow) (.int a) (.int b) (.int (a ^ b.toNat)) := fun A F G W s x y Q E rm c rx ry k => by
  obtain ⟨t1, rfl⟩ := Rep.int_v rx; obtain ⟨t2, rfl⟩ := Rep.int_v ry; with_reducible exact pow_int_small hn hn2 ha (k G _ _ Led.le.rfl (c.toks _) (.int _ _))
theorem OpR.andi {a b : Int} : OpR D n (binaryOp .BitAnd) (.int a) (.int b) (.int (Builtin.bitAnd a b)) := fun A F G W s x y Q E rm c rx ry k => by
  obtain ⟨t1, rfl⟩ := Rep.int_v rx; obtain ⟨t2, rfl⟩ := Rep.int_v ry; with_reducible exact and_int (k G _ _ Led.le.rfl (c.toks _) (.int _ _))
theorem OpR.lshifti {a b : Int} (hn : 0 ≤ b) (hn2 : b ≤ 1000000) (ha : a.natAbs < 2 ^ 64) : OpR D n (binaryOp .LShift) (.int a) (.int b) (.int (a * 2 ^ b.toNat)) := fun A F G W s x y Q E rm c rx ry k => by
  obtain ⟨t1, rfl⟩ := Rep.int_v rx; obtain ⟨t2, rfl⟩ := Rep.int_v ry; with_reducible exact lshift_int_small hn hn2 ha (k G _ _ Led.le.rfl (c.toks _) (.int _ _))
theorem OpR.ilshifti {a b : Int} (hn : 0 ≤ b) (hn2 : b ≤ 1000000) (ha : a.natAbs < 2 ^ 64) : OpR D n (inplaceOp .LShift) (.int a) (.int b) (.int (a * 2 ^ b.toNat)) := fun A F G W s x y Q E rm c rx ry k => by
  obtain ⟨t1, rfl⟩ := Rep.int_v rx; obtain ⟨t2, rfl⟩ := Rep.int_v ry; with_reducible exact ilshift_int_small hn hn2 ha (k G _ _ Led.le.rfl (c.toks _) (.int _ _))
theorem OpR.iori {a b : Int} : OpR D n (inplaceOp .BitOr) (.int a) (.int b) (.int (Builtin.bitOr a b)) := fun A F G W s x y Q E rm c rx ry k => by
  obtain ⟨t1, rfl⟩ := Rep.int_v rx; obtain ⟨t2, rfl⟩ := Rep.int_v ry; with_reducible exact ior_int (k G _ _ Led.le.rfl (c.toks _) (.int _ _))
theorem OpR.ixori {a b : Int} : OpR D n (inplaceOp .BitXor) (.int a) (.int b) (.int (Builtin.bitXor a b)) := fun A F G W s x y Q E rm c rx ry k => by
  obtain ⟨t1, rfl⟩ := Rep.int_v rx; obtain ⟨t2, rfl⟩ := Rep.int_v ry; with_reducible exact ixor_int (k G _ _ Led.le.rfl (c.toks _) (.int _ _))
theorem OpR.lti {a b : Int} : OpR D n (compareOp .Lt) (.int a) (.int b) (.bool (decide (a < b))) := fun A F G W s x y Q E rm c rx ry k => by
  obtain ⟨t1, rfl⟩ := Rep.int_v rx; obtain ⟨t2, rfl⟩ := Rep.int_v ry; with_reducible exact P.lt_int (k G _ _ Led.le.rfl c (.bool _))
theorem OpR.lei {a b : Int} : OpR D n (compareOp .LtE) (.int a) (.int b) (.bool (decide (a ≤ b))) := fun A F G W s x y Q E rm c rx ry k => by
  obtain ⟨t1, rfl⟩ := Rep.int_v rx; obtain ⟨t2, rfl⟩ := Rep.int_v ry; with_reducible exact P.le_int (k G _ _ Led.le.rfl c (.bool _))
theorem OpR.gti {a b : Int} : OpR D n (compareOp .Gt) (.int a) (.int b) (.bool (decide (a > b))) := fun A F G W s x y Q E rm c rx ry k => by
  obtain ⟨t1, rfl⟩ := Rep.int_v rx; obtain ⟨t2, rfl⟩ := Rep.int_v ry; with_reducible exact P.gt_int (k G _ _ Led.le.rfl c (.bool _))
theorem OpR.gei {a b : Int} : OpR D n (compareOp .GtE) (.int a) (.int b) (.bool (decide (a ≥ b))) := fun A F G W s x y Q E rm c rx ry k => by
  obtain ⟨t1, rfl⟩ := Rep.int_v rx; obtain ⟨t2, rfl⟩ := Rep.int_v ry; with_reducible exact P.ge_int (k G _ _ Led.le.rfl c (.bool _))
theorem TruthR.int {a : Int} : TruthR D n (.int a) (a != 0) := fun A F G W s x Q E rm c rx k => by
  obtain ⟨t1, rfl⟩ := Rep.int_v rx; with_reducible exact P.truthy_int (k G _ Led.le.rfl c)
theorem TruthR.bool {a : Bool} : TruthR D n (.bool a) a := fun A F G W s x Q E rm c rx k => by
  obtain rfl := Rep.bool_v rx; exact wpAny_truthy_bool (k G _ Led.le.rfl c)
theorem TruthR.none : TruthR D n .none false := fun A F G W s x Q E rm c rx k => by
  obtain rfl := Rep.none_v rx
  show wpAny _ _ (pure false) Q E s
  exact wpAny_pure (k G _ Led.le.rfl c)
theorem OpR.adds {x y : PySem.Str} (hz : x.length + y.length ≤ 16777216) : OpR D n (binaryOp .Add) (.str x) (.str y) (.str (x ++ y)) := fun A F G W s a b Q E rm c rx ry k => by
  obtain ⟨t1, rfl⟩ := Rep.str_v rx; obtain ⟨t2, rfl⟩ := Rep.str_v ry; with_reducible exact SB.add (fun t' j => k G _ _ Led.le.rfl (c.toks _) (.str _ _)) (by rw [sizeLine_eq]; with_reducible exact hz)
theorem OpR.iadds {x y : PySem.Str} (hz : x.length + y.length ≤ 16777216) : OpR D n (inplaceOp .Add) (.str x) (.str y) (.str (x ++ y)) := fun A F G W s a b Q E rm c rx ry k => by
  obtain ⟨t1, rfl⟩ := Rep.str_v rx; obtain ⟨t2, rfl⟩ := Rep.str_v ry; with_reducible exact SB.iadd (fun t' j => k G _ _ Led.le.rfl (c.toks _) (.str _ _)) (by rw [sizeLine_eq]; with_reducible exact hz)
theorem OpR.muls {x : PySem.Str} {i : Int} (hz : MulOk x i) : OpR D n (binaryOp .Mult) (.str x) (.int i) (.str (Txt.mul x i)) := fun A F G W s a b Q E rm c rx ry k => by
  obtain ⟨t1, rfl⟩ := Rep.str_v rx; obtain ⟨t2, rfl⟩ := Rep.int_v ry; with_reducible exact SB.mul hz (fun t' j => k G _ _ Led.le.rfl (c.toks _) (.str _ _))
theorem str_beq (x y : PySem.Str) : (x.cps.toList == y.cps.toList) = (x == y) := by
  obtain ⟨⟨a⟩⟩ := x
  obtain ⟨⟨b⟩⟩ := y
  by_cases h : a = b
  · subst h; simp
  · have h2 : ¬ (({ cps := ⟨a⟩ } : PySem.Str) = { cps := ⟨b⟩ }) := fun e => h (by cases e; rfl)
    rw [beq_eq_false_iff_ne.mpr h2]
    exact beq_eq_false_iff_ne.mpr h
theorem OpR.eqs {x y : PySem.Str} : OpR D n (compareOp .Eq) (.str x) (.str y) (.bool (x == y)) := fun A F G W s a b Q E rm c rx ry k => by
  obtain ⟨t1, rfl⟩ := Rep.str_v rx; obtain ⟨t2, rfl⟩ := Rep.str_v ry; with_reducible exact P.eq_str (by rw [str_beq]; with_reducible exact k G _ _ Led.le.rfl c (.bool _))
theorem str_bne (x y : PySem.Str) : (x.cps.toList != y.cps.toList) = (x != y) := congrArg (!·) (str_beq x y)
theorem OpR.nes {x y : PySem.Str} : OpR D n (compareOp .NotEq) (.str x) (.str y) (.bool (x != y)) := fun A F G W s a b Q E rm c rx ry k => by
  obtain ⟨t1, rfl⟩ := Rep.str_v rx; obtain ⟨t2, rfl⟩ := Rep.str_v ry
  with_reducible refine P.ne_str ?_
  rw [str_bne]
  exact k G _ _ Led.le.rfl c (.bool _)
theorem OpR.ins {x y : PySem.Str} : OpR D n (compareOp .In) (.str y) (.str x) (.bool (Txt.contains x y)) := fun A F G W s a b Q E rm c rx ry k => by
  obtain ⟨t1, rfl⟩ := Rep.str_v rx; obtain ⟨t2, rfl⟩ := Rep.str_v ry; with_reducible exact SB.contains (k G _ _ Led.le.rfl c (.bool _))
theorem OpR.notins {x y : PySem.Str} : OpR D n (compareOp .NotIn) (.str y) (.str x) (.bool (!Txt.contains x y)) := fun A F G W s a b Q E rm c rx ry k => by
  obtain ⟨t1, rfl⟩ := Rep.str_v rx; obtain ⟨t2, rfl⟩ := Rep.str_v ry; with_reducible exact SB.notContains (k G _ _ Led.le.rfl c (.bool _))
theorem TruthR.str {x : PySem.Str} (hz : x.length ≤ 16777216) : TruthR D n (.str x) (x.length != 0) := fun A F G W s a Q E rm c rx k => by
  obtain ⟨t1, rfl⟩ := Rep.str_v rx
  with_reducible refine P.truthy_str (by lia) ?_
  have e : ((x.length : Int) != 0) = (x.length != 0) := by
    rw [Bool.eq_iff_iff]; simp only [bne_iff_ne, ne_eq]; lia
  rw [e]; exact k G _ Led.le.rfl (c.toks _)
theorem OpR.isNone {p : PV} (hp : ∀ v, p ≠ .con v) : OpR D n (compareOp .Is) p .none (.bool (match p with | .none => true | _ => false)) := fun A F G W s x y Q E rm c rx ry k => by
  cases ry
  with_reducible refine is_none ?_
  cases rx <;> first | exact k G _ _ Led.le.rfl c (.bool _) | exact absurd rfl (hp _)
theorem OpR.isNotNone {p : PV} (hp : ∀ v, p ≠ .con v) : OpR D n (compareOp .IsNot) p .none (.bool (match p with | .none => false | _ => true)) := fun A F G W s x y Q E rm c rx ry k => by
  cases ry
  with_reducible refine isNot_none ?_
  cases rx <;> first | exact k G _ _ Led.le.rfl c (.bool _) | exact absurd rfl (hp _)
theorem OpR.addl {ps qs : List PV} (hz : ps.length + qs.length ≤ 1000000) : OpR D n (binaryOp .Add) (.list ps) (.list qs) (.list (ps ++ qs)) := fun A F G W s x y Q E rm c rx ry k => by
  cases rx with
  | @list a o vs m _ ga ca da ra =>
  cases ry with
  | @list b o' us m' _ gb cb db rb =>
    obtain ⟨cls, dd, data, sl⟩ := o
    obtain ⟨cls2, dd2, data2, sl2⟩ := o'
    simp only at ca da cb db
    subst ca da cb db
    have e : vs.toArray ++ us.toArray = (vs ++ us).toArray := by simp
    have hz' : vs.toArray.size + us.toArray.size ≤ sizeLine := by
      rw [List.size_toArray, List.size_toArray, ra.length, rb.length, sizeLine_eq]; lia
    have ha := c.inn _ _ ga
    have hb := c.inn _ _ gb
    have hTa : s.TypeIs (.ref a) "list" := ⟨_, ha, rfl⟩
    have hTb : s.TypeIs (.ref b) "list" := ⟨_, hb, rfl⟩
    have hslot : Slot "list" (PySem.Str.ofString "__add__") "list.__add__" := PySem.F.slot_list_add
    with_reducible refine concat_meets hTa hTb noFill_list_add seq_list_add hslot PySem.F.entry_list_add (PySem.F.args_list_add_2 _ _) (list_addW a b vs.toArray us.toArray m m' dd dd2 sl sl2 hz') ⟨ha, hb, ?_⟩
    rw [e]
    exact k _ _ _ Led.le_add (c.made rfl) (.list (.inr ⟨rfl, rfl⟩) rfl rfl ((ra.append rb).mono Led.le_add))
theorem strsOf {vs : List Value} : ∀ {xs : List PySem.Str}, RepAll G vs (xs.map .str) → StrsAre vs xs := by
  induction vs with
  | nil => intro xs h; cases xs with
    | nil => exact .nil
    | cons x r => cases h
  | cons v r ih => intro xs h; cases xs with
    | nil => cases h
    | cons x r' =>
      cases h with
      | cons h1 h2 => cases h1; exact .cons _ _ (ih h2)
theorem OpR.inl {x : PySem.Str} {xs : List PySem.Str} : OpR D n (compareOp .In) (.str x) (.list (xs.map .str)) (.bool (xs.any (· == x))) := fun A F G W s a b Q E rm c rx ry k => by
  obtain ⟨t1, rfl⟩ := Rep.str_v rx
  obtain ⟨l, rfl⟩ := ry.list_ref
  obtain ⟨vs, hl, rs⟩ := ry.isList c
  with_reducible exact in_list_strs hl (strsOf rs) (k G _ _ Led.le.rfl c (.bool _))
theorem OpR.notinl {x : PySem.Str} {xs : List PySem.Str} : OpR D n (compareOp .NotIn) (.str x) (.list (xs.map .str)) (.bool (!(xs.any (· == x)))) := fun A F G W s a b Q E rm c rx ry k => by
  obtain ⟨t1, rfl⟩ := Rep.str_v rx
  obtain ⟨l, rfl⟩ := ry.list_ref
  obtain ⟨vs, hl, rs⟩ := ry.isList c
  with_reducible exact notin_list_strs hl (strsOf rs) (k G _ _ Led.le.rfl c (.bool _))
theorem wpAny_subscripted {prog : Program} {w : World} {A : Around} {E : Value → Shared → Prop} {slice : Expr} {o i : Value} {Q : Value → Shared → Prop} (h : wpAny (model prog w) A (getItem o i) Q E s) : wpAny (model prog w) A (subscripted slice false o i) Q E s := by
  cases slice with
  | Slice a b c p => cases c <;> exact wpAny_operating h
  | _ => exact wpAny_operating h
theorem EvalR.sub {value slice : Expr} {pos : Pos} {p q r : PV} {T id : String} (h1 : EvalR D n env W value p W₁) (h2 : EvalR D n env W₁ slice q W₂) (ht : p.ty = some T) (hl : typeLookup (.type T) "__getitem__" = pure (some (.builtin id))) (h3 : OpR D n getItem p q r) :
    EvalR D n env W (.Subscript value slice pos) r W₂ := by
  intro A F G s Q E rm c k
  refine Subscript_ (h1 A F G s _ E rm c fun G₁ o s₁ l₁ c₁ r₁ => h2 A F G₁ s₁ _ E rm c₁ fun G₂ i s₂ l₂ c₂ r₂ => ?_)
  have hT := (r₁.mono l₂).typeIs c₂ ht
  unfold subscriptTail
  refine wpAny_bind ?_
  rw [getitemInPython_of_ne hT.not_modules]
  refine wpAny_bind (wpAny_specialOf hT hl ?_)
  have fin : wpAny (model D.prog D.w) A (subscripted slice false o i) (fun r s₃ => wpAny (model D.prog D.w) A (letTemporaryGo value o r >>= fun _ => pure r) Q E s₃) E s₂ :=
    wpAny_subscripted (h3 A F G₂ W₂ s₂ o i _ E rm c₂ (r₁.mono l₂) r₂ fun G₃ v s₃ l₃ c₃ rv => wpAny_bind (wpAny_letTemporaryGo (wpAny_pure (k G₃ v s₃ ((l₁.trans l₂).trans l₃) c₃ rv))))
  first
    | exact wpAny_pure (wpAny_bind fin)
    | exact wpAny_bind (wpAny_pure (wpAny_bind fin))
    | exact wpAny_bind fin
noncomputable def PartR (D : Wd) (n : Nat) (env : Env) (W : Wld) (e : Option Expr) (i : Option Int) (W' : Wld) : Prop := match e with
  | .none => i = Option.none ∧ W' = W
  | some e => ∃ j, i = some j ∧ EvalR D n env W e (.int j) W'
theorem PartR.none : PartR D n env W Option.none Option.none W := ⟨rfl, rfl⟩
theorem PartR.some {e : Expr} {i : Int} (h : EvalR D n env W e (.int i) W') : PartR D n env W (some e) (some i) W' := ⟨i, rfl, h⟩
theorem PartR.wp {e : Option Expr} {i : Option Int} (h : PartR D n env W e i W') : ∀ (A : Around) (F G : Led) (s : Shared) (Q : Value → Shared → Prop) (E : Value → Shared → Prop), Room A n → Core D F G W s → (∀ G' t s', G.le G' → Core D F G' W' s' → Q (partValue (i.map (·, t))) s') →
    wpAny (model D.prog D.w) A (evalPart e env) Q E s := by
  intro A F G s Q E rm c k
  cases e with
  | none =>
    obtain ⟨rfl, rfl⟩ := h
    exact wpAny_evalPart_none (k G 0 s Led.le.rfl c)
  | some e =>
    obtain ⟨j, rfl, h⟩ := h
    refine wpAny_evalPart_some (h A F G s Q E rm c fun G' v s' l c' r => ?_)
    cases r with
    | int _ t => exact k G' t s' l c'
theorem EvalR.slice {lower upper : Option Expr} {p : Pos} {l u : Option Int} (h1 : PartR D n env W lower l W₁) (h2 : PartR D n env W₁ upper u W₂) : EvalR D n env W (.Slice lower upper Option.none p) (.slice l u) W₂ := by
  intro A F G s Q E rm c k
  refine wpAny_Slice (h1.wp A F G s _ E rm c fun G₁ t₁ s₁ l₁ c₁ => h2.wp A F G₁ s₁ _ E rm c₁ fun G₂ t₂ s₂ l₂ c₂ => ?_)
  refine wpAny_evalPart_none (k _ _ _ ((l₁.trans l₂).trans Led.le_add) (c₂.made (ob := { cls := .type "slice", data := .fields #[partValue (l.map (·, t₁)), partValue (u.map (·, t₂)), .none] }) rfl) ?_)
  have := @Rep.slice (G₂.add s₂.heap.objs.size { cls := .type "slice", data := .fields #[partValue (l.map (·, t₁)), partValue (u.map (·, t₂)), .none] }) s₂.heap.objs.size _ (l.map (·, t₁)) (u.map (·, t₂)) (.inr ⟨rfl, rfl⟩) rfl rfl
  have e1 : (l.map (·, t₁)).map (·.1) = l := by cases l <;> rfl
  have e2 : (u.map (·, t₂)).map (·.1) = u := by cases u <;> rfl
  rw [e1, e2] at this
  exact this
theorem seqIndex_in {i : Int} {m : Nat} (h0 : 0 ≤ i) (h : i.toNat < m) : seqIndex? i m = some i.toNat := by
  have h1 : ¬ i < 0 := by lia
  have h2 : (decide (0 ≤ i) && decide (i < (m : Int))) = true := by
    rw [Bool.and_eq_true, decide_eq_true_eq, decide_eq_true_eq]; lia
  unfold seqIndex?
  simp only [h1, if_false]
  rw [if_pos (by simpa using h2)]
theorem OpR.iteml {ps : List PV} {i : Int} {p : PV} (h0 : 0 ≤ i) (hi : i < 2 ^ 62) (hx : ps[i.toNat]? = some p) : OpR D n getItem (.list ps) (.int i) p := fun A F G W s x y Q E rm c rx ry k => by
  obtain ⟨t2, rfl⟩ := Rep.int_v ry
  obtain ⟨a, rfl⟩ := rx.list_ref
  obtain ⟨vs, hl, rs⟩ := rx.isList c
  obtain ⟨v, hv, rv⟩ := rs.get _ _ hx
  with_reducible exact wpAny_getItem_list hl h0 (by lia) (by simpa using hv) (k G v s Led.le.rfl c rv)
theorem OpR.itemt {ps : List PV} {i : Int} {p : PV} (h0 : 0 ≤ i) (hi : i < 2 ^ 62) (hx : ps[i.toNat]? = some p) : OpR D n getItem (.tup ps) (.int i) p := fun A F G W s x y Q E rm c rx ry k => by
  obtain ⟨t2, rfl⟩ := Rep.int_v ry
  obtain ⟨a, rfl⟩ := rx.tup_ref
  obtain ⟨vs, hl, rs⟩ := rx.isTup c
  obtain ⟨v, hv, rv⟩ := rs.get _ _ hx
  have hlt : i.toNat < vs.length := (List.getElem?_eq_some_iff.mp hv).1
  with_reducible exact getItem_tuple hl (by lia) (by lia) (j := i.toNat) (seqIndex_in h0 (by simpa using hlt)) (by simpa using hv) (k G v s Led.le.rfl c rv)
theorem OpR.items {x : PySem.Str} {i : Int} (h0 : 0 ≤ i) (h1 : i < x.length) (hz : x.length ≤ 16777216) : OpR D n getItem (.str x) (.int i) (.str (Txt.item x i)) := fun A F G W s a b Q E rm c rx ry k => by
  obtain ⟨t1, rfl⟩ := Rep.str_v rx; obtain ⟨t2, rfl⟩ := Rep.int_v ry
  with_reducible refine SB.getItem (by unfold fitsSsize; simp; lia) ?_ (k G _ _ Led.le.rfl (c.toks _) (.str _ _))
  have hs : x.length = x.cps.size := rfl
  have hlt : i.toNat < x.cps.size := by lia
  unfold Txt.charAt
  rw [seqIndex_in h0 (by lia)]
  simp [hlt]
theorem OpR.cuts {x : PySem.Str} {l u : Option Int} (hz : x.length ≤ 16777216) : OpR D n getItem (.str x) (.slice l u) (.str (Txt.slice x l u)) := fun A F G W s a b Q E rm c rx ry k => by
  cases rx with
  | str _ t =>
  cases ry with
  | @slice a o l' u' g cl d =>
    have hsl : s.heap.IsSlice a l' u' none := ⟨o, c.inn _ _ g, cl, d⟩
    with_reducible refine wpAny_getItem_str_slice (l := l') (u := u') (st := none) hsl rfl ?_
    have hle : ((slicePicked x l' u' none).filterMap (x.cps[·]?)).length ≤ sizeLine := Nat.le_trans (List.length_filterMap_le _ _) (Nat.le_trans (sliceIndices_le _ _ _) hz)
    unfold sliceMade
    have e : Txt.slice x (l'.map (·.1)) (u'.map (·.1)) = if (((none : Option (Int × Tok)).map (·.1)).getD 1 == 1 && (slicePicked x l' u' none).length == x.length) = true then x else ⟨((slicePicked x l' u' none).filterMap (x.cps[·]?)).toArray⟩ := rfl
    rw [e] at k
    split
    · rename_i h; rw [if_pos h] at k; exact k G _ s Led.le.rfl c (.str _ _)
    · rename_i h; rw [if_neg h] at k; exact ⟨by show (_ : Array Nat).size ≤ _; rw [List.size_toArray]; exact hle, k G _ _ Led.le.rfl (c.toks _) (.str _ _)⟩
theorem slicePick_upto' (items : Array Value) (b : Nat) : slicePick items none (some b) none = (items.toList.take b).toArray := by
  by_cases hb : b ≤ items.size
  · exact slicePick_upto items b hb
  · have e : sliceBounds none (some (b : Int)) none items.size = sliceBounds none (some (items.size : Int)) none items.size := by
      simp only [sliceBounds, Option.getD_none]
      have h1 : ¬ ((b : Int) < 0) := by lia
      have h2 : ¬ ((items.size : Int) < 0) := by lia
      simp only [h1, h2, if_false, show (1 : Int) > 0 by decide, if_true]
      congr 1; congr 1; lia
    have h2 := slicePick_upto items items.size (Nat.le_refl _)
    unfold slicePick at h2 ⊢
    rw [e, h2, List.take_of_length_le (by simp), List.take_of_length_le (by simp; lia)]
theorem slicePick_from' (items : Array Value) (b : Nat) : slicePick items (some b) none none = (items.toList.drop b).toArray := by
  by_cases hb : b ≤ items.size
  · exact slicePick_from items b hb
  · have e : sliceBounds (some (b : Int)) none none items.size = sliceBounds (some (items.size : Int)) none none items.size := by
      simp only [sliceBounds, Option.getD_none]
      have h1 : ¬ ((b : Int) < 0) := by lia
      have h2 : ¬ ((items.size : Int) < 0) := by lia
      simp only [h1, h2, if_false, show (1 : Int) > 0 by decide, if_true]
      congr 1; lia
    have h2 := slicePick_from items items.size (Nat.le_refl _)
    unfold slicePick at h2 ⊢
    rw [e, h2, List.drop_of_length_le (by simp), List.drop_of_length_le (by simp; lia)]
theorem isPart_of (l : Option (Int × Tok)) : IsPart (partValue l) (l.map (·.1)) := by
  cases l with
  | none => exact .none
  | some p => exact .int _ _
theorem OpR.upto {ps : List PV} {b : Int} (h0 : 0 ≤ b) (hz : ps.length ≤ 1000000) : OpR D n getItem (.list ps) (.slice none (some b)) (.list (ps.take b.toNat)) := fun A F G W s x y Q E rm c rx ry k => by
  obtain ⟨a, rfl⟩ := rx.list_ref
  obtain ⟨vs, hl, rs⟩ := rx.isList c
  generalize hlo : (none : Option Int) = lo at ry
  generalize hhi : some b = hi at ry
  cases ry with
  | @slice a o l' u' g cl d =>
    have e : slicePick vs.toArray (l'.map (·.1)) (u'.map (·.1)) none = (vs.take b.toNat).toArray := by
      rw [← hlo, ← hhi]
      have := slicePick_upto' vs.toArray b.toNat
      rw [Int.toNat_of_nonneg h0] at this
      exact this
    have hsl : s.heap.IsSliceOf a (partValue l') (partValue u') .none := ⟨o, c.inn _ _ g, cl, d⟩
    with_reducible refine wpAny_getItem_list_slice hl hsl (isPart_of l') (isPart_of u') .none (by simp) ?_ (by rw [List.size_toArray, rs.length, sizeLine_eq]; lia)
    rw [e]
    exact k _ _ _ Led.le_add (c.made rfl) (.list (.inr ⟨rfl, rfl⟩) rfl rfl ((rs.take _).mono Led.le_add))
theorem OpR.from {ps : List PV} {b : Int} (h0 : 0 ≤ b) (hz : ps.length ≤ 1000000) : OpR D n getItem (.list ps) (.slice (some b) none) (.list (ps.drop b.toNat)) := fun A F G W s x y Q E rm c rx ry k => by
  obtain ⟨a, rfl⟩ := rx.list_ref
  obtain ⟨vs, hl, rs⟩ := rx.isList c
  generalize hlo : (none : Option Int) = lo at ry
  generalize hhi : some b = hi at ry
  cases ry with
  | @slice a o l' u' g cl d =>
    have e : slicePick vs.toArray (l'.map (·.1)) (u'.map (·.1)) none = (vs.drop b.toNat).toArray := by
      rw [← hlo, ← hhi]
      have := slicePick_from' vs.toArray b.toNat
      rw [Int.toNat_of_nonneg h0] at this
      exact this
    have hsl : s.heap.IsSliceOf a (partValue l') (partValue u') .none := ⟨o, c.inn _ _ g, cl, d⟩
    with_reducible refine wpAny_getItem_list_slice hl hsl (isPart_of l') (isPart_of u') .none (by simp) ?_ (by rw [List.size_toArray, rs.length, sizeLine_eq]; lia)
    rw [e]
    exact k _ _ _ Led.le_add (c.made rfl) (.list (.inr ⟨rfl, rfl⟩) rfl rfl ((rs.drop _).mono Led.le_add))
end
end

section
open PySem PySem.W PyProof.Rows PySem.Calls
structure Iterates (D : Wd) (G : Led) (it : Addr) (ps : List PV) (St : Nat → Heap → Prop) : Prop where
  at_ : ∀ i h h', St i h → (∀ o, h.get? it = some o → h'.get? it = some o) → St i h'
  step : ∀ (A : Around) (n : Nat) (F G' : Led) (W : Wld) (o : Obj) (s : Shared) (i : Nat) (Q : Option Value → Shared → Prop) (E : Value → Shared → Prop), Room A n → Core D F G' ((it, .raw o) :: W) s → G.le G' → St i s.heap →
    (∀ p, ps[i]? = some p → ∀ G'' o' v s', G'.le G'' → Core D F G'' ((it, .raw o') :: W) s' → St (i + 1) s'.heap → Rep G'' v p → Q (some v) s') →
    (ps[i]? = none → ∀ s', Core D F G' W s' → Q none s') → wpAny (model D.prog D.w) A (pyNext (.ref it)) Q E s
  self : ∀ (A : Around) (s : Shared) (i : Nat) (Q : Value → Shared → Prop) (E : Value → Shared → Prop), St i s.heap → Q (.ref it) s → wpAny (model D.prog D.w) A (pyIter (.ref it)) Q E s
  quiet : ∀ i h, St i h → ∃ o m vs, h.get? it = some o ∧ o.cls = .type m ∧ o.data = .fields vs ∧ ["enumerate", "zip", "dict_itemiterator", "dict_reverseitemiterator", "odict_iterator", "itertools.zip_longest", "itertools.pairwise"].contains m = false
section
variable {D : Wd} {n : Nat} {env : Env} {L : Addr} {ns : Kinds} {cl : List (PySem.Str × Addr)} {W W' W₁ W₂ W₃ : Wld} {F G : Led} {s : Shared}
theorem Core.moved {it : Addr} {o o' : Obj} {h' : Heap} {t : Nat} (c : Core D F G ((it, .raw o) :: W) s) (hs : Heap.SameBut it s.heap h') (e : h'.get? it = some o') : Core D F G ((it, .raw o') :: W) { s with heap := h', toks := t } :=
  Core.put (W₁ := []) c hs e
theorem Core.after {it : Addr} {o : Obj} {h' : Heap} {t : Nat} (c : Core D F G ((it, .raw o) :: W) s) (hs : Heap.ExtBut it s.heap h') : Core D F G W { s with heap := h', toks := t } := by
  have keep : ∀ b o, b ≠ it → s.heap.get? b = some o → h'.get? b = some o := fun b o hb e => hs b o hb e
  have nd := c.nd
  rw [List.map_cons, List.nodup_cons] at nd
  refine ⟨c.base, fun a o g => keep a o (fun e => c.wG _ (.head _) o (e ▸ g)) (c.inn a o g), fun a o g => keep a o (fun e => c.wF _ (.head _) o (e ▸ g)) (c.frn a o g), c.apart, c.pop.wG, c.pop.wF, nd.2, fun p hp => ?_, c.gens, c.os⟩
  exact MO.mv Led.le.rfl (fun o e => keep _ o (fun q => nd.1 (List.mem_map.mpr ⟨p, hp, q⟩)) e) (c.wok p (.tail _ hp))
theorem Iterates.list {it l : Addr} {ps : List PV} (r : Rep G (.ref l) (.list ps)) : Iterates D G it ps (fun i h => h.IsListIter it l i) where
  at_ := fun i h h' x e => x.at e
  step := fun A n F G' W o s i Q E rm c l hst hn hd => by
    have r' := r.mono l
    obtain ⟨vs, hl, rs⟩ := r'.isList c
    cases hp : ps[i]? with
    | some p =>
      obtain ⟨v, hv, rv⟩ := rs.get i p hp
      with_reducible refine wpAny_pyNext_list_item hst hl (x := v) (by simpa using hv) ?_
      intro h' hit hs
      obtain ⟨o', ho', _⟩ := id hit
      exact hn p hp G' o' v _ Led.le.rfl (c.moved (t := s.toks) hs ho') hit rv
    | none =>
      have hv : vs.toArray[i]? = none := by
        rw [List.getElem?_toArray, List.getElem?_eq_none_iff, rs.length]
        exact List.getElem?_eq_none_iff.mp hp
      with_reducible refine wpAny_pyNext_list_end rm.handled hst hl hv ?_
      exact fun h' he => hd hp _ (c.after (t := s.toks) he)
  self := fun A s i Q E hst q => wpAny_pyIter_listiter hst q
  quiet := fun i h e => ⟨_, _, _, e.choose_spec.1, e.choose_spec.2.1, e.choose_spec.2.2, by decide⟩
theorem Iterates.tup {it l : Addr} {ps : List PV} (r : Rep G (.ref l) (.tup ps)) : Iterates D G it ps (fun i h => h.IsTupleIter it l i) where
  at_ := fun i h h' ⟨o, ho, x⟩ e => ⟨o, e o ho, x⟩
  step := fun A n F G' W o s i Q E rm c l hst hn hd => by
    have r' := r.mono l
    obtain ⟨vs, hl, rs⟩ := r'.isTup c
    have hl' : s.heap.IsTuple _ vs.toArray := hl
    cases hp : ps[i]? with
    | some p =>
      obtain ⟨v, hv, rv⟩ := rs.get i p hp
      with_reducible refine wpAny_pyNext_tuple_item hst hl' (x := v) (by simpa using hv) ?_
      intro h' hit hs
      obtain ⟨o', ho', _⟩ := id hit
      exact hn p hp G' o' v _ Led.le.rfl (c.moved (t := s.toks) hs ho') hit rv
    | none =>
      have hv : vs.toArray[i]? = none := by
        rw [List.getElem?_toArray, List.getElem?_eq_none_iff, rs.length]
        exact List.getElem?_eq_none_iff.mp hp
      with_reducible refine wpAny_pyNext_tuple_end rm.handled hst hl' hv ?_
      exact fun h' he => hd hp _ (c.after (t := s.toks) he)
  self := fun A s i Q E hst q => wpAny_pyIter_tupleiter hst q
  quiet := fun i h e => ⟨_, _, _, e.choose_spec.1, e.choose_spec.2.1, e.choose_spec.2.2, by decide⟩
noncomputable def upto (n : Int) : List PV := (List.range n.toNat).map fun (i : Nat) => PV.int (i : Int)
theorem Iterates.range {it : Addr} {m : Int} : Iterates D G it (upto m) (fun i h => IsRangeIter h it (i : Int) ((m.toNat : Int) - (i : Nat)) 1) where
  at_ := fun i h h' x e => e _ x
  step := fun A n F G' W o s i Q E rm c l hst hn hd => by
    by_cases hi : i < m.toNat
    · have hp : (upto m)[i]? = some (.int (i : Int)) := by simp [upto, hi]
      with_reducible refine wpAny_pyNext_range_item hst (by lia) ?_
      intro h' hit hs
      refine hn _ hp G' _ _ _ Led.le.rfl (c.moved (t := s.toks + 1) hs hit) ?_ (.int _ _)
      have e1 : ((i + 1 : Nat) : Int) = (i : Int) + 1 := by lia
      have e2 : (m.toNat : Int) - ((i + 1 : Nat) : Int) = (m.toNat : Int) - (i : Int) - 1 := by lia
      show IsRangeIter h' it ((i + 1 : Nat) : Int) _ 1
      rw [e2, e1]; exact hit
    · have hp : (upto m)[i]? = none := by simp [upto]; lia
      with_reducible refine wpAny_pyNext_range_end rm.handled hst (by lia) ?_
      exact fun h' he => hd hp _ (c.after (t := s.toks) he)
  self := fun A s i Q E hst q => wpAny_pyIter_rangeiter hst q
  quiet := fun i h e => ⟨_, _, _, e, rfl, rfl, by decide⟩
noncomputable def IterR (D : Wd) (n : Nat) (p : PV) (ps : List PV) : Prop :=
  ∀ (A : Around) (F G : Led) (W : Wld) (s : Shared) (v : Value) (Q : Value → Shared → Prop) (E : Value → Shared → Prop), Room A n → Core D F G W s → Rep G v p →
    (∀ it o G' St s', Iterates D G' it ps St → G.le G' → Core D F G' ((it, .raw o) :: W) s' → St 0 s'.heap → Q (.ref it) s') → wpAny (model D.prog D.w) A (pyIter v) Q E s
theorem Core.newRaw (c : Core D F G W s) (ob : Obj) (hf : ob.isFreed = false) : Core D F G ((s.heap.objs.size, .raw ob) :: W) { s with heap := s.heap.push ob } :=
  c.new (t := s.toks) (Nat.le_refl _) (fun _ _ e => Heap.get?_push_of_some _ e) (Heap.get?_push_size _ hf)
theorem IterR.list {ps : List PV} : IterR D n (.list ps) ps := fun A F G W s v Q E rm c r k => by
  obtain ⟨l, rfl⟩ := r.list_ref
  obtain ⟨vs, hl, rs⟩ := r.isList c
  with_reducible refine wpAny_pyIter_list hl ?_
  exact k _ _ G _ _ (Iterates.list r) Led.le.rfl (c.newRaw { cls := .type "list_iterator", data := .fields #[.ref l, .int 0 0] } rfl) ⟨_, Heap.get?_push_size _ rfl, rfl, rfl⟩
theorem IterR.tup {ps : List PV} : IterR D n (.tup ps) ps := fun A F G W s v Q E rm c r k => by
  obtain ⟨l, rfl⟩ := r.tup_ref
  obtain ⟨vs, hl, rs⟩ := r.isTup c
  have hl' : s.heap.IsTuple _ vs.toArray := hl
  with_reducible refine wpAny_pyIter_tuple hl' ?_
  exact k _ _ G _ _ (Iterates.tup r) Led.le.rfl (c.newRaw { cls := .type "tuple_iterator", data := .fields #[.ref l, .int 0 0] } rfl) ⟨_, Heap.get?_push_size _ rfl, rfl, rfl⟩
theorem IterR.range {m : Int} (h : m < 2 ^ 61 := by lia) (h' : -(2 ^ 61) < m := by lia) : IterR D n (.range m) (upto m) := fun A F G W s v Q E rm c r k => by
  cases r with
  | @range a _ t u v g =>
    have hr : IsRange s.heap a 0 m 1 t u v := c.inn _ _ g
    with_reducible refine wpAny_pyIter_range hr (small_one (by decide) (by decide) (by lia) (by lia)) ?_
    refine k _ _ G _ _ (Iterates.range (m := m)) Led.le.rfl (c.newRaw { cls := .type "range_iterator", data := .fields #[rawInt 0, rawInt (Builtin.Range.rangeSize 0 m 1), rawInt 1] } rfl) ?_
    have e : Builtin.Range.rangeSize 0 m 1 = (m.toNat : Int) - ((0 : Nat) : Int) := by rw [rangeSize_one]; split <;> lia
    rw [← e]
    exact Heap.get?_push_size _ rfl
noncomputable def AssignR (D : Wd) (n : Nat) (env : Env) (W : Wld) (t : Expr) (p : PV) (W' : Wld) : Prop :=
  ∀ (A : Around) (F G : Led) (s : Shared) (v : Value) (Q : Unit → Shared → Prop) (E : Value → Shared → Prop), Room A n → Core D F G W s → Rep G v p → (∀ s', Core D F G W' s' → Q () s') → wpAny (model D.prog D.w) A (assign t env v) Q E s
theorem AssignR.name {x : PySem.Str} {pos : Pos} {p : PV} (h : StoreR D env W x p W') : AssignR D n env W (.Name x pos) p W' := fun A F G s v Q E rm c r k => wpAny_assign_Name (h A F G s v Q E c r k)
inductive ForR (D : Wd) (n : Nat) (env : Env) (target : Expr) (body orelse : List Stmt) : Wld → List PV → Out → Prop
  | done {W : Wld} {o : Out} : ExecR D n env W orelse o → ForR D n env target body orelse W [] o
  | next {W W₁ W₂ : Wld} {p : PV} {ps : List PV} {o : Out} : AssignR D n env W target p W₁ → ExecR D n env W₁ body (.next W₂) → ForR D n env target body orelse W₂ ps o → ForR D n env target body orelse W (p :: ps) o
  | cont {W W₁ W₂ : Wld} {p : PV} {ps : List PV} {o : Out} : AssignR D n env W target p W₁ → ExecR D n env W₁ body (.cont W₂) → ForR D n env target body orelse W₂ ps o → ForR D n env target body orelse W (p :: ps) o
  | brk {W W₁ W₂ : Wld} {p : PV} {ps : List PV} : AssignR D n env W target p W₁ → ExecR D n env W₁ body (.brk W₂) → ForR D n env target body orelse W (p :: ps) (.next W₂)
  | ret {W W₁ W₂ : Wld} {p q : PV} {ps : List PV} : AssignR D n env W target p W₁ → ExecR D n env W₁ body (.ret q W₂) → ForR D n env target body orelse W (p :: ps) (.ret q W₂)
theorem wpAny_letOwned {prog : Program} {w : World} {A : Around} {E : Value → Shared → Prop} {target : Expr} {it : Addr} {v : Value} {o : Obj} {m : String} {vs : Array Value} {Q : Unit → Shared → Prop} (ho : s.heap.get? it = some o) (hc : o.cls = .type m) (hd : o.data = .fields vs)
    (hm : ["enumerate", "zip", "dict_itemiterator", "dict_reverseitemiterator", "odict_iterator", "itertools.zip_longest", "itertools.pairwise"].contains m = false) (h : Q () s) : wpAny (model prog w) A (letOwnedTupleGo target (.ref it) v) Q E s := by
  have key : ∀ a : Addr, wpAny (model prog w) A (letOwnedTupleGo (.Tuple [] 0 default) (.ref it) (.ref a)) Q E s := fun a => by
    show wpAny _ _ (load it >>= _) _ _ _
    refine wpAny_bind (wpAny_load ho ?_)
    rw [hc, hd]
    dsimp only
    rw [hm]
    exact wpAny_pure h
  cases target <;> first | exact wpAny_pure h | (cases v <;> first | exact wpAny_pure h | exact key _)
theorem Iterates.owned {it : Addr} {ps : List PV} {St : Nat → Heap → Prop} (I : Iterates D G it ps St) {A : Around} {i : Nat} {E : Value → Shared → Prop} {target : Expr} {v : Value} {Q : Unit → Shared → Prop} (st : St i s.heap) (h : Q () s) :
    wpAny (model D.prog D.w) A (letOwnedTupleGo target (.ref it) v) Q E s :=
  let ⟨_, _, _, ho, hc, hd, hm⟩ := I.quiet _ _ st
  wpAny_letOwned ho hc hd hm h
theorem ForR.turn {target : Expr} {body orelse : List Stmt} {p : PV} {ps : List PV} {o : Out} (hf : ForR D n env target body orelse W (p :: ps) o) {A : Around} {v : Value} {Q : Flow → Shared → Prop} {E : Value → Shared → Prop} (rm : Room A n) (c : Core D F G W s) (rv : Rep G v p)
    (k1 : ∀ (G₄ : Led) (s₄ : Shared) (W₄ : Wld), G.le G₄ → Core D F G₄ W₄ s₄ → ForR D n env target body orelse W₄ ps o → Q .next s₄ ∧ Q .cont s₄)
    (k2 : ∀ (G₄ : Led) (s₄ : Shared) (W₄ : Wld), G.le G₄ → Core D F G₄ W₄ s₄ → o = .next W₄ → Q .brk s₄)
    (k3 : ∀ (G₄ : Led) (s₄ : Shared) (W₄ : Wld) (q : PV) (u : Value), G.le G₄ → Core D F G₄ W₄ s₄ → Rep G₄ u q → o = .ret q W₄ → Q (.ret u) s₄) :
    wpAny (model D.prog D.w) A (assign target env v) (fun _ s => wpAny (model D.prog D.w) A (execs body env) Q E s) E s := by
  cases hf with
  | next ha hb hr => exact ha A F G s v _ _ rm c rv fun s₃ c₃ => hb A F G s₃ _ _ rm c₃ fun G₄ s₄ l₄ c₄ => (k1 G₄ s₄ _ l₄ c₄ hr).1
  | cont ha hb hr => exact ha A F G s v _ _ rm c rv fun s₃ c₃ => hb A F G s₃ _ _ rm c₃ fun G₄ s₄ l₄ c₄ => (k1 G₄ s₄ _ l₄ c₄ hr).2
  | brk ha hb => exact ha A F G s v _ _ rm c rv fun s₃ c₃ => hb A F G s₃ _ _ rm c₃ fun G₄ s₄ l₄ c₄ => k2 G₄ s₄ _ l₄ c₄ rfl
  | ret ha hb => exact ha A F G s v _ _ rm c rv fun s₃ c₃ => hb A F G s₃ _ _ rm c₃ fun G₄ u s₄ l₄ c₄ ru => k3 G₄ s₄ _ _ u l₄ c₄ ru rfl
theorem forW {target iter : Expr} {body orelse : List Stmt} {pos : Pos} {p : PV} {ps : List PV} {o : Out} (h2 : IterR D n p ps) (h3 : ForR D n env target body orelse W₁ ps o)
    (hs : ∀ x, foldedSetIterable iter env x = pure x) (A : Around) (F G : Led) (s : Shared) (Q : Flow → Shared → Prop) (E : Value → Shared → Prop) (rm : Room A n)
    (h1 : ∀ Q : Value → Shared → Prop, (∀ G' v s', G.le G' → Core D F G' W₁ s' → Rep G' v p → Q v s') → wpAny (model D.prog D.w) A (eval iter env) Q E s) (k : o.post D F G Q) : wpAny (model D.prog D.w) A (exec (.For target iter body orelse pos) env) Q E s := by
  refine wpAny_For (h1 _ fun G₁ v s₁ l₁ c₁ r₁ => h2 A F G₁ W₁ s₁ v _ E rm c₁ r₁ fun it ob G₂ St s₂ I l₂ c₂ st => ?_) hs
  refine codeAny_forLoop_any (fun m s => ∀ P : Prop, (∀ i ob G' W', m = ps.length - i → G₂.le G' → Core D F G' ((it, .raw ob) :: W') s → St i s.heap → ForR D n env target body orelse W' (ps.drop i) o → P) → P) ?_ _
    fun P k => k 0 ob G₂ W₁ rfl Led.le.rfl c₂ st h3
  intro m s' hinv
  refine hinv _ fun i ob' G' W' hm lg c' st' hf => ?_
  have k' : o.post D F G' Q := Out.post_le ((l₁.trans l₂).trans lg) k
  refine I.step A n F G' W' ob' s' i _ _ rm c' lg st' ?_ ?_
  · intro p hp G'' o' v s'' l c'' st'' rv
    have hlt : i < ps.length := (List.getElem?_eq_some_iff.mp hp).1
    have hd : ps.drop i = p :: ps.drop (i + 1) := by
      rw [List.drop_eq_getElem_cons hlt]
      congr 1
      rw [List.getElem?_eq_getElem hlt] at hp
      exact Option.some.inj hp
    refine I.owned st'' ?_
    have cs : Core D (foreign F s''.heap [(it, .raw o')]) G'' W' s'' := Core.shut (W₁ := [(it, .raw o')]) c''
    have reopen : ∀ {G₃ : Led} {W₃ : Wld} {s₃ : Shared}, G''.le G₃ → Core D (foreign F s''.heap [(it, .raw o')]) G₃ W₃ s₃ → Core D F G₃ ((it, .raw o') :: W₃) s₃ ∧ St (i + 1) s₃.heap := fun {G₃ W₃ s₃} l₃ c₃ => by
      have c₄ := Core.open (W₁ := [(it, .raw o')]) c'' l₃ c₃
      refine ⟨c₄, I.at_ _ _ _ st'' fun ox hx => ?_⟩
      have h1 : s''.heap.get? it = some o' := c''.wok _ (.head _)
      have h2 : s₃.heap.get? it = some o' := c₄.wok _ (.head _)
      rw [h1] at hx; cases hx; exact h2
    rw [hd] at hf
    refine hf.turn rm cs rv (fun G₄ s₄ W₄ l₄ c₄ hr => ?_) (fun G₄ s₄ W₄ l₄ c₄ e => ?_) (fun G₄ s₄ W₄ q u l₄ c₄ ru e => ?_)
    · have c₅ := reopen l₄ c₄
      have hm' : ps.length - (i + 1) < m := by lia
      exact ⟨⟨_, hm', fun P k => k (i + 1) o' G₄ W₄ rfl ((lg.trans l).trans l₄) c₅.1 c₅.2 hr⟩, ⟨_, hm', fun P k => k (i + 1) o' G₄ W₄ rfl ((lg.trans l).trans l₄) c₅.1 c₅.2 hr⟩⟩
    · subst e; exact k' G₄ s₄ (l.trans l₄) (reopen l₄ c₄).1.pop
    · subst e; exact k' G₄ u s₄ (l.trans l₄) (reopen l₄ c₄).1.pop ru
  · intro hp s'' c''
    have hd : ps.drop i = [] := by
      exact List.drop_of_length_le (List.getElem?_eq_none_iff.mp hp)
    rw [hd] at hf
    cases hf with
    | done h =>
      refine wpAny_mono (h A F G' s'' Q (fun _ _ => False) rm c'' k') (fun f s₃ hq => hq) (fun _ _ e => e.elim)
theorem ExecS.for {target iter : Expr} {body orelse : List Stmt} {pos : Pos} {p : PV} {ps : List PV} {o : Out} (h1 : EvalR D n env W iter p W₁) (h2 : IterR D n p ps) (h3 : ForR D n env target body orelse W₁ ps o)
    (hs : ∀ x, foldedSetIterable iter env x = pure x := by intro _; rfl) : ExecS D n env W (.For target iter body orelse pos) o :=
  fun A F G s Q E rm c k => forW h2 h3 hs A F G s Q E rm (fun Q hQ => h1 A F G s Q E rm c hQ) k
end
end

section
open PySem PySem.W PyProof.Rows PySem.Calls
section
variable {D : Wd} {n : Nat} {env : Env} {L : Addr} {ns : Kinds} {cl : List (PySem.Str × Addr)} {W W' W₁ W₂ W₃ : Wld} {F G : Led} {s : Shared}
inductive Out.Sub : Out → Out → Prop
  | next {W W' : Wld} : W'.Sublist W → Out.Sub (.next W) (.next W')
  | brk {W W' : Wld} : W'.Sublist W → Out.Sub (.brk W) (.brk W')
  | cont {W W' : Wld} : W'.Sublist W → Out.Sub (.cont W) (.cont W')
  | ret {p : PV} {W W' : Wld} : W'.Sublist W → Out.Sub (.ret p W) (.ret p W')
theorem Out.Sub.post {o o' : Out} (h : Out.Sub o o') {Q : Flow → Shared → Prop} (k : o'.post D F G Q) : o.post D F G Q := by
  cases h with
  | next h => exact fun G' s' l c => k G' s' l (c.sub h)
  | brk h => exact fun G' s' l c => k G' s' l (c.sub h)
  | cont h => exact fun G' s' l c => k G' s' l (c.sub h)
  | ret h => exact fun G' v s' l c r => k G' v s' l (c.sub h) r
theorem ExecR.tell {a : Addr} {m m' : MO} {b : List Stmt} {o : Out} (hp : WPut W a m m' W₁) (hm : ∀ G h, m.Is G h a → m'.Is G h a) (h : ExecR D n env W₁ b o) : ExecR D n env W b o :=
  fun A F G s Q E rm c q => h A F G s Q E rm (c.tellW hp (hm G s.heap)) q
theorem MO.frame_sub {σ σ' : Sg} (h : ∀ x p, σ'.lookup x = some p → σ.lookup x = some p) {G : Led} {hp : Heap} {a : Addr} (k : (MO.frame σ).Is G hp a) : (MO.frame σ').Is G hp a := by
  obtain ⟨m, hn, hm⟩ := k
  exact ⟨m, hn, fun x p e => hm x p (h x p e)⟩
theorem ExecR.names {σ σ' : Sg} {b : List Stmt} {o : Out} (hp : WPut W L (.frame σ) (.frame σ') W₁) (hs : ∀ x p, σ'.lookup x = some p → σ.lookup x = some p) (h : ExecR D n env W₁ b o) : ExecR D n env W b o :=
  h.tell hp fun G hp k => MO.frame_sub hs k
theorem Core.still {a : Addr} {ps : List PV} {W₁ W₂ : Wld} (c : Core D F G (W₁ ++ (a, .lst ps) :: W₂) s) : ∃ ob, Core D F (G.add a ob) (W₁ ++ W₂) s ∧ Rep (G.add a ob) (.ref a) (.list ps) := by
  have hm : (a, MO.lst ps) ∈ W₁ ++ (a, .lst ps) :: W₂ := List.mem_append.mpr (.inr (.head _))
  obtain ⟨vs, ⟨ob, m, ho, hc, _, hd⟩, rs⟩ := c.wok _ hm
  have hsub : (W₁ ++ W₂).Sublist (W₁ ++ (a, .lst ps) :: W₂) := List.Sublist.append_left (List.sublist_cons_self _ _) _
  refine ⟨ob, (c.sub hsub).freeze ho (fun o => c.wF _ hm o) ?_, .list (.inr ⟨rfl, rfl⟩) hc hd (rs.mono Led.le_add)⟩
  intro p hp e
  have nd := c.nd
  rw [List.map_append, List.map_cons, List.nodup_append, List.nodup_cons] at nd
  rcases List.mem_append.mp hp with h1 | h1
  · exact nd.2.2 _ (List.mem_map_of_mem h1) _ (.head _) e
  · exact nd.2.1.1 (List.mem_map.mpr ⟨p, h1, e⟩)
noncomputable def Still (a : Addr) (ps : List PV) (σ σ' : Sg) : Prop := ∀ x p, σ'.lookup x = some p → σ.lookup x = some p ∨ (σ.lookup x = some (.con (.ref a)) ∧ p = .list ps)
theorem ExecR.still {a : Addr} {ps : List PV} {σ σ' : Sg} {b : List Stmt} {o : Out} (hs : Still a ps σ σ') (h : ExecR D n env ((L, .frame σ') :: (W₁ ++ W₂)) b o) : ExecR D n env ((L, .frame σ) :: (W₁ ++ (a, .lst ps) :: W₂)) b o := by
  intro A F G s Q E rm c q
  obtain ⟨ob, c', r⟩ := Core.still (W₁ := (L, .frame σ) :: W₁) c
  refine h A F _ s Q E rm (Core.tell (W₁ := []) (m := .frame σ) c' fun k => ?_) (Out.post_le Led.le_add q)
  obtain ⟨m, hn, hm⟩ := k
  refine ⟨m, hn, fun x p e => ?_⟩
  rcases hs x p e with h1 | ⟨h1, rfl⟩
  · exact hm x p h1
  · obtain ⟨v, hv, rv⟩ := hm x _ h1
    obtain rfl := rv.con_v
    exact ⟨_, hv, r⟩
theorem Still.nil {a : Addr} {ps : List PV} : Still a ps [] [] := fun x p e => by cases e
theorem Still.keep {a : Addr} {ps : List PV} {σ σ' : Sg} {y : PySem.Str} {q : PV} (h : Still a ps σ σ') : Still a ps ((y, q) :: σ) ((y, q) :: σ') := fun x p e => by
  by_cases hx : x == y
  · simp only [List.lookup, hx] at e ⊢; exact .inl e
  · simp only [List.lookup, hx] at e ⊢; exact h x p e
theorem Still.turn {a : Addr} {ps : List PV} {σ σ' : Sg} {y : PySem.Str} (h : Still a ps σ σ') : Still a ps ((y, .con (.ref a)) :: σ) ((y, .list ps) :: σ') := fun x p e => by
  by_cases hx : x == y
  · have e1 : List.lookup x ((y, PV.list ps) :: σ') = some (.list ps) := by simp only [List.lookup, hx]
    rw [e1] at e; cases e
    exact .inr ⟨by simp only [List.lookup, hx], rfl⟩
  · simp only [List.lookup, hx] at e ⊢; exact h x p e
theorem ExecR.own {x : PySem.Str} {es : List Expr} {lp pos' pos : Pos} {ps : List PV} {rest : List Stmt} {o : Out} {W₃ : Addr → Wld} (h1 : EvalsR D n env W es ps W₁) (h2 : ∀ a, StoreR D env ((a, .lst ps) :: W₁) x (.con (.ref a)) (W₃ a)) (h3 : ∀ a, ∃ o', ExecR D n env (W₃ a) rest o' ∧ Out.Sub o' o)
    (hz : es.length ≤ 1000 := by decide) (hs : swapsWith (.List es lp) (some (.Name x pos')) pos.line env = pure false := by rfl) : ExecR D n env W (.Assign [.Name x pos'] (.List es lp) pos :: rest) o := by
  intro A F G s Q E rm c k
  refine wpAny_execs_cons (wpAny_Assign_Name (evalOwnList h1 hz A F G s _ E rm c fun G₁ a s₁ l₁ c₁ => h2 a A F G₁ s₁ (.ref a) _ E c₁ (.con _) fun s₂ c₂ => ?_) hs)
  obtain ⟨o', ho, hsub⟩ := h3 a
  exact ho A F G₁ s₂ Q E rm c₂ (hsub.post (Out.post_le l₁ k))
inductive AssignsR (D : Wd) (n : Nat) (env : Env) : Wld → List Expr → List PV → Wld → Prop
  | nil {W : Wld} : AssignsR D n env W [] [] W
  | cons {W W₁ W₂ : Wld} {t : Expr} {ts : List Expr} {p : PV} {ps : List PV} (he : assignEach (t :: ts) env = (false, assign t env) :: assignEach ts env) : AssignR D n env W t p W₁ → AssignsR D n env W₁ ts ps W₂ → AssignsR D n env W (t :: ts) (p :: ps) W₂
theorem AssignsR.facts {ts : List Expr} {ps : List PV} (h : AssignsR D n env W ts ps W') : (assignEach ts env).length = ps.length ∧ (assignEach ts env).findIdx? (·.1) = none := by
  induction h with
  | nil => exact ⟨rfl, rfl⟩
  | cons he _ _ ih => rw [he]; exact ⟨by simp [ih.1], by simp [List.findIdx?_cons, ih.2]⟩
theorem AssignsR.wp {ts : List Expr} {ps : List PV} (h : AssignsR D n env W ts ps W') : ∀ (A : Around) (F G : Led) (s : Shared) (vs : List Value) (Q : Unit → Shared → Prop) (E : Value → Shared → Prop), Room A n → Core D F G W s → RepAll G vs ps → (∀ s', Core D F G W' s' → Q () s') →
    wpAny (model D.prog D.w) A (assignInOrder ((assignEach ts env).map (·.2)) vs) Q E s := by
  induction h with
  | nil => intro A F G s vs Q E rm c r k; obtain rfl := r.nil_v; exact wpAny_pure (k s c)
  | cons he ha _ ih =>
    intro A F G s vs Q E rm c r k
    obtain ⟨v, vs, rfl, rv, rs⟩ := r.cons_v
    rw [he]
    show wpAny _ _ (do holding vs (assign _ env v); assignInOrder _ vs) _ _ _
    exact wpAny_bind (wpAny_holding (ha A F G s v _ E rm c rv fun s₁ c₁ => ih A F G s₁ vs Q E rm c₁ rs k))
theorem Core.grown (c : Core D F G W s) {h' : Heap} {t : Nat} (k : Heap.ExtBut s.heap.objs.size s.heap h') : Core D F G W { s with heap := h', toks := t } :=
  c.grow fun a o e => k a o (Nat.ne_of_lt (Heap.lt_size e)) e
theorem AssignR.tup {ts : List Expr} {k' : Nat} {pos : Pos} {ps : List PV} (h : AssignsR D n env W ts ps W') : AssignR D n env W (.Tuple ts k' pos) (.tup ps) W' := fun A F G s v Q E rm c r k => by
  obtain ⟨a, rfl⟩ := r.tup_ref
  obtain ⟨vs, hl, rs⟩ := r.isTup c
  have hl' : s.heap.IsTuple a vs.toArray := hl
  with_reducible refine wpAny_assign_Tuple rm.handled hl' ?_ h.facts.2 ?_
  · rw [h.facts.1, List.size_toArray, rs.length]
  · intro h' he
    exact h.wp A F G _ _ Q E rm (c.grown (t := s.toks) he) rs k
theorem ExecS.assignT {ts : List Expr} {e : Expr} {k' : Nat} {tpos pos : Pos} {p : PV} (h1 : EvalR D n env W e p W₁) (h2 : AssignR D n env W₁ (Expr.Tuple ts k' tpos) p W₂) (hs : swapsWithSole [Expr.Tuple ts k' tpos] e pos.line env = pure false := by rfl) (hw : swappedStores [Expr.Tuple ts k' tpos] e env = pure none := by rfl) :
    ExecS D n env W (.Assign [Expr.Tuple ts k' tpos] e pos) (.next W₂) := by
  intro A F G s Q E rm c k
  refine wpAny_Assign_stores (h1 A F G s _ E rm c fun G₁ v s₁ l₁ c₁ r => ?_) hs hw
  show wpAny _ _ (PySem.assign (Expr.Tuple ts k' tpos) env v) _ _ _
  exact h2 A F G₁ s₁ v _ E rm c₁ r fun s₂ c₂ => k G₁ s₂ l₁ c₂
theorem swapped2 {x y : PySem.Str} {px py tpos vpos : Pos} {k k' : Nat} {e₁ e₂ : Expr} (ok : EnvOk env L ns cl) (hx : ns.lookup x = some .local) (hy : ns.lookup y = some .local) (hxy : x ≠ y) (hl : (px.line == py.line) = true)
    (hst : ([e₁, e₂].any fun | .Starred .. => true | _ => false) = false) (hf : ([e₁, e₂].all (foldedForSure 8)) = false) (hc : ([e₁, e₂].all (constantsAlone 8)) = false) :
    swappedStores [Expr.Tuple [.Name x px, .Name y py] k tpos] (Expr.Tuple [e₁, e₂] k' vpos) env = pure (some [x, y]) := by
  have hb : env.blockKind = .function := by
    unfold Env.blockKind; rw [ok.kind]; rfl
  have kx : (env.kindOf x == some .local) = true := by rw [ok.names x, hx]; rfl
  have ky : (env.kindOf y == some .local) = true := by rw [ok.names y, hy]; rfl
  have e1 : (py.line == px.line) = true := by
    have := eq_of_beq hl
    rw [this]; exact beq_self_eq_true _
  have e0 : (px.line == px.line) = true := beq_self_eq_true _
  have e2 : [x, y].eraseDups = [x, y] := by
    have : (y == x) = false := by simpa using fun h => hxy h.symm
    simp [List.eraseDups_cons, this]
  have n1 : ∀ {f : Expr → Option PySem.Str}, f (.Name x px) = some x → f (.Name y py) = some y → [Expr.Name x px, .Name y py].filterMap f = [x, y] := fun h1 h2 => by
    rw [List.filterMap_cons_some h1, List.filterMap_cons_some h2]; rfl
  unfold swappedStores
  refine (if_neg ?h1).trans ((if_neg fun h => Bool.noConfusion (h.symm.trans hst)).trans ((if_neg ?h3).trans ((if_neg fun h => Bool.noConfusion (h.symm.trans hf)).trans ((if_neg fun h => Bool.noConfusion (h.symm.trans hc)).trans ?h6))))
  case h1 => rw [hb]; exact Bool.false_ne_true
  case h3 =>
    rw [n1 (by exact if_pos (Bool.and_eq_true_iff.mpr ⟨kx, e0⟩)) (by exact if_pos (Bool.and_eq_true_iff.mpr ⟨ky, e1⟩)), e2]
    exact Bool.false_ne_true
  case h6 => rw [n1 (by exact if_pos (Bool.and_eq_true_iff.mpr ⟨kx, e0⟩)) (by exact if_pos (Bool.and_eq_true_iff.mpr ⟨ky, e1⟩))]
theorem ExecS.assignSw {x y : PySem.Str} {px py tpos pos : Pos} {k' : Nat} {e : Expr} {p q : PV} (h1 : EvalR D n env W e (.tup [p, q]) W₁) (h2 : StoreR D env W₁ y q W₂) (h3 : StoreR D env W₂ x p W₃)
    (hw : swappedStores [Expr.Tuple [.Name x px, .Name y py] k' tpos] e env = pure (some [x, y])) (hs : swapsWithSole [Expr.Tuple [.Name x px, .Name y py] k' tpos] e pos.line env = pure false := by rfl) :
    ExecS D n env W (.Assign [Expr.Tuple [.Name x px, .Name y py] k' tpos] e pos) (.next W₃) := by
  intro A F G s Q E rm c k
  refine Assign_Tuple_swapped (names := [x, y]) (h1 A F G s _ E rm c fun G₁ v s₁ l₁ c₁ r => ?_) hs hw
  obtain ⟨a, rfl⟩ := r.tup_ref
  obtain ⟨vs, hl, rs⟩ := r.isTup c₁
  have hl' : s₁.heap.IsTuple a vs.toArray := hl
  obtain ⟨v₁, v₂, rfl, r₁, r₂⟩ := rs.two
  have hu := wpAny_unpackItems_tuple (prog := D.prog) (w := D.w) (A := A) (E := E) (s := s₁) (Q := fun items s₂ => wpAny (model D.prog D.w) A (assignInOrder ([x, y].reverse.map fun n => bindName env n) items.reverse) (fun _ => Q .next) E s₂) rm.handled hl' (fun h' he => ?_)
  · exact hu
  · show wpAny _ _ (do holding [v₁] (bindName env y v₂); do holding [] (bindName env x v₁); pure ()) _ _ _
    refine wpAny_bind (wpAny_holding (wpAny_bindName (h2 A F G₁ _ v₂ _ E (c₁.grown (t := s₁.toks) he) r₂ fun s₃ c₃ => wpAny_bind (wpAny_holding (wpAny_bindName (h3 A F G₁ s₃ v₁ _ E c₃ r₁ fun s₄ c₄ => wpAny_pure (k G₁ s₄ l₁ c₄)))))))
theorem ExecR.ownSw {x y : PySem.Str} {px py tpos vpos lp pos : Pos} {k' k'' : Nat} {es : List Expr} {e : Expr} {ps : List PV} {q : PV} {rest : List Stmt} {o : Out} {W₃ W₄ : Addr → Wld} (h1 : EvalsR D n env W es ps W₁) (hz : es.length ≤ 1000)
    (h2 : ∀ a, EvalR D n env ((a, .lst ps) :: W₁) e q ((a, .lst ps) :: W₂)) (h3 : ∀ a, StoreR D env ((a, .lst ps) :: W₂) y q (W₃ a)) (h4 : ∀ a, StoreR D env (W₃ a) x (.con (.ref a)) (W₄ a)) (h5 : ∀ a, ∃ o', ExecR D n env (W₄ a) rest o' ∧ Out.Sub o' o)
    (he1 : starEach [.List es lp, e] env = (false, eval (.List es lp) env) :: starEach [e] env) (he2 : starEach [e] env = (false, eval e env) :: starEach [] env)
    (hw : swappedStores [Expr.Tuple [.Name x px, .Name y py] k' tpos] (.Tuple [.List es lp, e] k'' vpos) env = pure (some [x, y])) (hs : swapsWithSole [Expr.Tuple [.Name x px, .Name y py] k' tpos] (.Tuple [.List es lp, e] k'' vpos) pos.line env = pure false := by rfl) :
    ExecR D n env W (.Assign [Expr.Tuple [.Name x px, .Name y py] k' tpos] (.Tuple [.List es lp, e] k'' vpos) pos :: rest) o := by
  intro A F G s Q E rm c k
  refine wpAny_execs_cons (Assign_Tuple_swapped (names := [x, y]) ?_ hs hw)
  refine wpAny_Tuple (wpAny_items_cons (evalOwnList h1 hz A F G s _ E rm c fun G₁ a s₁ l₁ c₁ => wpAny_items_cons (h2 a A F G₁ s₁ _ E rm c₁ fun G₂ v s₂ l₂ c₂ r => wpAny_items_nil ⟨show 2 ≤ sizeLine by decide, ?_⟩) he2) he1)
  have c₃ := c₂.made (ob := { cls := .type "tuple", data := .seq [Value.ref a, v].toArray }) rfl
  have ht : ({ s₂ with heap := s₂.heap.push { cls := .type "tuple", data := .seq [Value.ref a, v].toArray } } : Shared).heap.IsTuple s₂.heap.objs.size [Value.ref a, v].toArray := ⟨_, Heap.get?_push_size _ rfl, rfl, _, rfl⟩
  have hu := wpAny_unpackItems_tuple (prog := D.prog) (w := D.w) (A := A) (E := E) (Q := fun items s₂ => wpAny (model D.prog D.w) A (assignInOrder ([x, y].reverse.map fun n => bindName env n) items.reverse) (fun _ s₅ => wpAny (model D.prog D.w) A (execs rest env) Q E s₅) E s₂) rm.handled ht (fun h' he => ?_)
  · exact hu
  · show wpAny _ _ (do holding [.ref a] (bindName env y v); do holding [] (bindName env x (.ref a)); pure ()) _ _ _
    refine wpAny_bind (wpAny_holding (wpAny_bindName (h3 a A F _ _ v _ E (c₃.grown (t := s₂.toks) he) (r.mono Led.le_add) fun s₃ c₃ => wpAny_bind (wpAny_holding (wpAny_bindName (h4 a A F _ s₃ (.ref a) _ E c₃ (.con _) fun s₄ c₄ => wpAny_pure ?_))))))
    obtain ⟨o', ho, hsub⟩ := h5 a
    exact ho A F _ s₄ Q E rm c₄ (hsub.post (Out.post_le ((l₁.trans l₂).trans Led.le_add) k))
end
end

section
open PySem PySem.W PyProof.Rows PySem.Calls
noncomputable def closL (cells : List (PySem.Str × Addr)) : Kinds → List (PySem.Str × Addr) → List (PySem.Str × Addr)
  | [], acc => acc
  | (x, k) :: r, acc => if k == .free then (match cells.lookup x with | some a => closL cells r ((x, a) :: acc) | none => closL cells r acc) else closL cells r acc
noncomputable def freeIn (cells : List (PySem.Str × Addr)) (sn : Kinds) : Prop := ∀ p ∈ sn, p.2 = .free → (cells.lookup p.1).isSome = true
theorem forIn_clos {env : Env} : ∀ (sn : Kinds) (acc : List (PySem.Str × Addr)), freeIn env.cells sn →
    (forIn sn acc fun (x : PySem.Str × NameKind) (cs : List (PySem.Str × Addr)) => (if x.2 == .free then do let a ← cellOf env x.1; pure (ForInStep.yield ((x.1, a) :: cs)) else pure (ForInStep.yield cs) : Sem (ForInStep (List (PySem.Str × Addr))))) = pure (closL env.cells sn acc)
  | [], acc, _ => by rw [List.forIn_nil]; rfl
  | (x, k) :: r, acc, h => by
    have hr : freeIn env.cells r := fun p hp => h p (.tail _ hp)
    rw [List.forIn_cons]
    by_cases hk : k = .free
    · subst hk
      have hc := h (x, .free) (.head _) rfl
      obtain ⟨a, ha⟩ := Option.isSome_iff_exists.mp hc
      have : cellOf env x = pure a := by unfold cellOf; rw [ha]
      simp only [beq_self_eq_true, if_true, this, pure_bind]
      rw [forIn_clos r _ hr]
      have e : closL env.cells ((x, .free) :: r) acc = closL env.cells r ((x, a) :: acc) := by
        rw [closL]
        simp only [beq_self_eq_true, if_true]
        dsimp only at ha
        rw [ha]
      rw [e]
    · have hb : (k == NameKind.free) = false := by simpa using hk
      simp only [hb, Bool.false_eq_true, if_false, pure_bind]
      rw [forIn_clos r _ hr]
      have e : closL env.cells ((x, k) :: r) acc = closL env.cells r acc := by
        rw [closL]
        simp only [hb, Bool.false_eq_true, if_false]
      rw [e]
theorem closureFor_eq {scope : Scope} {env : Env} (h : freeIn env.cells scope.names) : closureFor scope env = pure (closL env.cells scope.names []) := by
  have := forIn_clos scope.names [] h
  unfold closureFor
  simp only [bind_pure]
  exact this
noncomputable def relab (ns sn : Kinds) : Kinds := sn.map fun (x, k) => if (k == .free && ns.lookup x == some .cell) then (x, .cell) else (x, k)
theorem relabel_names {scope : Scope} {env : Env} {L : Addr} {ns : Kinds} {cl : List (PySem.Str × Addr)} (ok : EnvOk env L ns cl) : (relabel scope env).names = relab ns scope.names := by
  unfold relabel relab
  refine List.map_congr_left fun p _ => ?_
  obtain ⟨x, k⟩ := p
  dsimp only
  rw [ok.kind, ok.names x]
  cases k == NameKind.free <;> rfl
section
variable {D : Wd} {n : Nat} {env cenv : Env} {L : Addr} {ns : Kinds} {cl : List (PySem.Str × Addr)} {W W' W₁ W₂ W₃ : Wld} {F G : Led} {s : Shared}
inductive IfsR (D : Wd) (n : Nat) (cenv : Env) : Wld → List Expr → Bool → Wld → Prop
  | nil {W : Wld} : IfsR D n cenv W [] true W
  | no {W W₁ : Wld} {c : Expr} {r : List Expr} : TestR D n cenv W c false W₁ → IfsR D n cenv W (c :: r) false W₁
  | yes {W W₁ W₂ : Wld} {c : Expr} {r : List Expr} {b : Bool} : TestR D n cenv W c true W₁ → IfsR D n cenv W₁ r b W₂ → IfsR D n cenv W (c :: r) b W₂
noncomputable def ifsTree (cenv : Env) (ifs : List Expr) : Sem Bool := forIn ifs true fun c r => if r = true then do let ok ← isTrue c cenv (eval c cenv); pure (ForInStep.yield ok) else pure (ForInStep.yield r)
theorem ifs_false {cenv : Env} : ∀ (r : List Expr), (forIn r false fun c r => if r = true then do let ok ← isTrue c cenv (eval c cenv); pure (ForInStep.yield ok) else pure (ForInStep.yield r) : Sem Bool) = pure false
  | [] => by rw [List.forIn_nil]
  | c :: r => by
    rw [List.forIn_cons]
    simp only [Bool.false_eq_true, if_false, pure_bind]
    exact ifs_false r
theorem IfsR.wp {ifs : List Expr} {b : Bool} (h : IfsR D n cenv W ifs b W') : ∀ (A : Around) (F G : Led) (s : Shared) (Q : Bool → Shared → Prop) (E : Value → Shared → Prop), Room A n → Core D F G W s → (∀ G' s', G.le G' → Core D F G' W' s' → Q b s') →
    wpAny (model D.prog D.w) A (ifsTree cenv ifs) Q E s := by
  induction h with
  | nil =>
    intro A F G s Q E rm c k
    unfold ifsTree
    rw [List.forIn_nil]
    exact wpAny_pure (k G s Led.le.rfl c)
  | no h =>
    intro A F G s Q E rm c k
    unfold ifsTree
    rw [List.forIn_cons]
    simp only [if_true]
    refine wpAny_bind (wpAny_bind (h A F G s _ E rm c fun G₁ s₁ l₁ c₁ => wpAny_pure ?_))
    dsimp only
    rw [ifs_false]
    exact wpAny_pure (k G₁ s₁ l₁ c₁)
  | yes h _ ih =>
    intro A F G s Q E rm c k
    unfold ifsTree
    rw [List.forIn_cons]
    simp only [if_true]
    refine wpAny_bind (wpAny_bind (h A F G s _ E rm c fun G₁ s₁ l₁ c₁ => wpAny_pure ?_))
    exact ih A F G₁ s₁ Q E rm c₁ fun G₂ s₂ l₂ c₂ => k G₂ s₂ (l₁.trans l₂) c₂
inductive CompR (D : Wd) (n : Nat) (cenv : Env) (elt : Expr) : List Comprehension → Wld → List PV → List PV → Wld → Prop
  | nil {t it : Expr} {ifs : List Expr} {gs : List Comprehension} {W : Wld} : CompR D n cenv elt (⟨t, it, ifs, 0⟩ :: gs) W [] [] W
  | skip {t it : Expr} {ifs : List Expr} {gs : List Comprehension} {W W₁ W₂ W₃ : Wld} {p : PV} {ps out : List PV} : AssignR D n cenv W t p W₁ → IfsR D n cenv W₁ ifs false W₂ → CompR D n cenv elt (⟨t, it, ifs, 0⟩ :: gs) W₂ ps out W₃ → CompR D n cenv elt (⟨t, it, ifs, 0⟩ :: gs) W (p :: ps) out W₃
  | take {t it : Expr} {ifs : List Expr} {W W₁ W₂ W₃ W₄ : Wld} {p q : PV} {ps out : List PV} : AssignR D n cenv W t p W₁ → IfsR D n cenv W₁ ifs true W₂ → EvalR D n cenv W₂ elt q W₃ → CompR D n cenv elt [⟨t, it, ifs, 0⟩] W₃ ps out W₄ → CompR D n cenv elt [⟨t, it, ifs, 0⟩] W (p :: ps) (q :: out) W₄
  | deep {t it t' it' : Expr} {ifs ifs' : List Expr} {gs : List Comprehension} {W W₁ W₂ W₃ W₄ W₅ : Wld} {p q : PV} {ps qs out out' : List PV} : AssignR D n cenv W t p W₁ → IfsR D n cenv W₁ ifs true W₂ → EvalR D n cenv W₂ it' q W₃ → IterR D n q qs → (∀ x, foldedSetIterable it' cenv x = pure x) →
      CompR D n cenv elt (⟨t', it', ifs', 0⟩ :: gs) W₃ qs out W₄ → CompR D n cenv elt (⟨t, it, ifs, 0⟩ :: ⟨t', it', ifs', 0⟩ :: gs) W₄ ps out' W₅ → CompR D n cenv elt (⟨t, it, ifs, 0⟩ :: ⟨t', it', ifs', 0⟩ :: gs) W (p :: ps) (out ++ out') W₅
theorem compTurn_eq (elt t iter : Expr) (ifs : List Expr) (gens : List Comprehension) (scope : Scope) (pos : Pos) (depth : Nat) (it acc : Value) (env : Env) (hg : gens[depth]? = some ⟨t, iter, ifs, 0⟩) (hn : gens[depth + 1]? = none) :
    compTurn (.ListComp elt gens scope pos) depth it acc env = (standAt iter.pos >>= fun _ => pyNext it >>= fun r => match r with
      | none => pure (.done .next)
      | some v => letOwnedTupleGo t it v >>= fun _ => assign t env v >>= fun _ => ifsTree env ifs >>= fun ok =>
        (if ok = true then ((eval elt env >>= fun x => call (.builtin "list.append") [acc, x] >>= fun _ => pure ()) >>= fun _ => again (.compLoop (.ListComp elt gens scope pos) depth it acc env)) else again (.compLoop (.ListComp elt gens scope pos) depth it acc env))) := by
  unfold compTurn
  dsimp only
  rw [hg]
  dsimp only
  simp only [bne_self_eq_false, Bool.false_eq_true, if_false, hn]
  rfl
theorem compTurn_any (elt t iter : Expr) (ifs : List Expr) (gens : List Comprehension) (scope : Scope) (pos : Pos) (depth : Nat) (it acc : Value) (env : Env) (hg : gens[depth]? = some ⟨t, iter, ifs, 0⟩) :
    ∃ rest : Bool → Sem Fin, rest false = again (.compLoop (.ListComp elt gens scope pos) depth it acc env) ∧ compTurn (.ListComp elt gens scope pos) depth it acc env = (standAt iter.pos >>= fun _ => pyNext it >>= fun r => match r with
      | none => pure (.done .next)
      | some v => letOwnedTupleGo t it v >>= fun _ => assign t env v >>= fun _ => ifsTree env ifs >>= rest) := by
  unfold compTurn
  dsimp only
  rw [hg]
  dsimp only
  simp only [bne_self_eq_false, Bool.false_eq_true, if_false]
  refine ⟨_, ?_, rfl⟩
  rfl
theorem compTurn_deep (elt t iter t' iter' : Expr) (ifs ifs' : List Expr) (gens : List Comprehension) (scope : Scope) (pos : Pos) (depth : Nat) (it acc : Value) (env : Env) (hg : gens[depth]? = some ⟨t, iter, ifs, 0⟩) (hn : gens[depth + 1]? = some ⟨t', iter', ifs', 0⟩) :
    compTurn (.ListComp elt gens scope pos) depth it acc env = (standAt iter.pos >>= fun _ => pyNext it >>= fun r => match r with
      | none => pure (.done .next)
      | some v => letOwnedTupleGo t it v >>= fun _ => assign t env v >>= fun _ => ifsTree env ifs >>= fun ok =>
        (if ok = true then (eval iter' env >>= fun x => standAt iter'.pos >>= fun _ => foldedSetIterable iter' env x >>= fun x => holding [x] (pyIter x) >>= fun i => runOwn (.compStart (.ListComp elt gens scope pos) (depth + 1) i acc env) env >>= fun _ => again (.compLoop (.ListComp elt gens scope pos) depth it acc env)) else again (.compLoop (.ListComp elt gens scope pos) depth it acc env))) := by
  unfold compTurn
  dsimp only
  rw [hg]
  dsimp only
  simp only [bne_self_eq_false, Bool.false_eq_true, if_false, hn]
  rfl
theorem codeAny_compStart_at {A : Around} {R : Result → Shared → Prop} {elt t iter : Expr} {ifs : List Expr} {gens : List Comprehension} {scope : Scope} {pos : Pos} {depth : Nat} {it acc : Value} {env : Env} (hg : gens[depth]? = some ⟨t, iter, ifs, 0⟩)
    (h0 : codeAny (model D.prog D.w) A (.compLoop (.ListComp elt gens scope pos) depth it acc env) R s)
    (hi : ∀ (Q : Value → Shared → Prop) (E : Value → Shared → Prop), Q it s → wpAny (model D.prog D.w) A (pyIter it) Q E s) :
    codeAny (model D.prog D.w) A (.compStart (.ListComp elt gens scope pos) depth it acc env) R s := by
  refine codeAny_of_tree ?_
  show wpAny _ A ((compStart (.ListComp elt gens scope pos) depth it acc env).onRaise (fun x => do noteFrame x env; standAt theWindowsPlace)) _ _ s
  refine wpAny_notedAt ?_
  unfold compStart
  have hc : clausesOf (.ListComp elt gens scope pos) = gens := rfl
  rw [hc, hg]
  simp only [Option.elim, bne_self_eq_false, Bool.false_eq_true, if_false]
  show wpAny _ _ (ask >>= _) _ _ s
  refine wpAny_bind (wpAny_askSetting (wpAny_ite ?_))
  split
  · first
      | exact wpAny_bind (wpAny_pure (wpAny_pure (And.intro rfl h0)))
      | exact wpAny_pure (And.intro rfl h0)
  · refine wpAny_bind (wpAny_rule ?_)
    first
      | exact wpAny_bind (wpAny_standAt (wpAny_bind (hi _ _ (wpAny_pure (And.intro rfl h0)))))
      | (show wpAny _ _ (standAt iter.pos >>= _) _ _ s; exact wpAny_bind (wpAny_standAt (wpAny_bind (hi _ _ (wpAny_pure (And.intro rfl h0))))))
theorem drop_head {α : Type} {l : List α} {i : Nat} {x : α} {r : List α} (h : l.drop i = x :: r) : l[i]? = some x ∧ l.drop (i + 1) = r := by
  have hlt : i < l.length := by
    rcases Nat.lt_or_ge i l.length with h1 | h1
    · exact h1
    · rw [List.drop_of_length_le h1] at h; cases h
  rw [List.drop_eq_getElem_cons hlt] at h
  injection h with h1 h2
  exact ⟨by rw [List.getElem?_eq_getElem hlt, h1], h2⟩
theorem drop_end {α : Type} {l : List α} {i : Nat} (h : l.drop i = []) : l[i]? = none := List.getElem?_eq_none_iff.mpr (List.drop_eq_nil_iff.mp h)
theorem CompR.code {elt : Expr} {gens : List Comprehension} {scope : Scope} {pos : Pos} {gs : List Comprehension} {ps out : List PV} (h : CompR D n cenv elt gs W ps out W') :
    ∀ (A : Around) (F G₀ G : Led) (s : Shared) (depth : Nat) (it acc : Addr) (ob : Obj) (St : Nat → Heap → Prop) (ps₀ : List PV) (i : Nat) (done : List PV) (R : Result → Shared → Prop), Room A n → gens.drop depth = gs → Iterates D G₀ it ps₀ St → G₀.le G → ps₀.drop i = ps → St i s.heap →
      Core D F G ((it, .raw ob) :: (acc, .lst done) :: W) s → done.length + out.length ≤ 1000000 → (∀ G' s', G.le G' → Core D F G' ((acc, .lst (done ++ out)) :: W') s' → R (.ok .next) s') →
      codeAny (model D.prog D.w) A (.compLoop (.ListComp elt gens scope pos) depth (.ref it) (.ref acc) cenv) R s := by
  induction h with
  | @nil t iter ifs gs W =>
    intro A F G₀ G s depth it acc ob St ps₀ i done R rm hd I l0 hps st c hz k
    obtain ⟨hg, _⟩ := drop_head hd
    obtain ⟨rest, _, he⟩ := compTurn_any elt t iter ifs gens scope pos depth (.ref it) (.ref acc) cenv hg
    refine codeAny_of_tree ?_
    show wpAny _ A ((compTurn (.ListComp elt gens scope pos) depth (.ref it) (.ref acc) cenv).onRaise (fun x => do noteFrame x cenv; theTreesLotGoes x)) _ _ s
    refine wpAny_noted ?_
    rw [he]
    refine wpAny_bind (wpAny_standAt (wpAny_bind (I.step A n F G _ ob s i _ _ rm c l0 st ?_ ?_)))
    · intro p hp; rw [drop_end hps] at hp; cases hp
    · intro _ s' c'
      exact wpAny_pure (k G s' Led.le.rfl (by rw [List.append_nil]; exact c'))
  | @skip t iter ifs gs W W₁ W₂ W₃ p ps out ha hi hr ih =>
    intro A F G₀ G s depth it acc ob St ps₀ i done R rm hd I l0 hps st c hz k
    obtain ⟨hg, _⟩ := drop_head hd
    obtain ⟨hp0, hps'⟩ := drop_head hps
    obtain ⟨rest, hrest, he⟩ := compTurn_any elt t iter ifs gens scope pos depth (.ref it) (.ref acc) cenv hg
    refine codeAny_of_tree ?_
    show wpAny _ A ((compTurn (.ListComp elt gens scope pos) depth (.ref it) (.ref acc) cenv).onRaise (fun x => do noteFrame x cenv; theTreesLotGoes x)) _ _ s
    refine wpAny_noted ?_
    rw [he]
    refine wpAny_bind (wpAny_standAt (wpAny_bind (I.step A n F G _ ob s i _ _ rm c l0 st ?_ ?_)))
    · intro p' hp' G₁ o' v s₁ l₁ c₁ st₁ rv
      rw [hp0] at hp'; cases hp'
      refine wpAny_bind (I.owned st₁ ?_)
      have cs : Core D (foreign F s₁.heap [(it, .raw o'), (acc, .lst done)]) G₁ W s₁ := Core.shut (W₁ := [(it, .raw o'), (acc, .lst done)]) c₁
      refine wpAny_bind (ha A _ G₁ s₁ v _ _ rm cs rv fun s₂ c₂ => wpAny_bind (hi.wp A _ G₁ s₂ _ _ rm c₂ fun G₃ s₃ l₃ c₃ => ?_))
      rw [hrest]
      have c₄ := Core.open (W₁ := [(it, .raw o'), (acc, .lst done)]) c₁ l₃ c₃
      have st₃ : St (i + 1) s₃.heap := I.at_ _ _ _ st₁ fun ox hx => by
        have h1 : s₁.heap.get? it = some o' := c₁.wok _ (.head _)
        have h2 : s₃.heap.get? it = some o' := c₄.wok _ (.head _)
        rw [h1] at hx; cases hx; exact h2
      exact wpAny_pure ⟨rfl, ih A F G₀ G₃ s₃ depth it acc o' St ps₀ (i + 1) done R rm hd I ((l0.trans l₁).trans l₃) hps' st₃ c₄ hz fun G' s' l' c' => k G' s' ((l₁.trans l₃).trans l') c'⟩
    · intro hp'; rw [hp0] at hp'; cases hp'
  | @take t iter ifs W W₁ W₂ W₃ W₄ p q ps out ha hi hq hr ih =>
    intro A F G₀ G s depth it acc ob St ps₀ i done R rm hd I l0 hps st c hz k
    obtain ⟨hg, hg'⟩ := drop_head hd
    obtain ⟨hp0, hps'⟩ := drop_head hps
    refine codeAny_of_tree ?_
    show wpAny _ A ((compTurn (.ListComp elt gens scope pos) depth (.ref it) (.ref acc) cenv).onRaise (fun x => do noteFrame x cenv; theTreesLotGoes x)) _ _ s
    refine wpAny_noted ?_
    rw [compTurn_eq elt t iter ifs gens scope pos depth (.ref it) (.ref acc) cenv hg (drop_end hg')]
    refine wpAny_bind (wpAny_standAt (wpAny_bind (I.step A n F G _ ob s i _ _ rm c l0 st ?_ ?_)))
    · intro p' hp' G₁ o' v s₁ l₁ c₁ st₁ rv
      rw [hp0] at hp'; cases hp'
      refine wpAny_bind (I.owned st₁ ?_)
      have cs : Core D (foreign F s₁.heap [(it, .raw o'), (acc, .lst done)]) G₁ W s₁ := Core.shut (W₁ := [(it, .raw o'), (acc, .lst done)]) c₁
      refine wpAny_bind (ha A _ G₁ s₁ v _ _ rm cs rv fun s₂ c₂ => wpAny_bind (hi.wp A _ G₁ s₂ _ _ rm c₂ fun G₃ s₃ l₃ c₃ => ?_))
      rw [if_pos rfl]
      refine wpAny_bind (wpAny_bind (hq A _ G₃ s₃ _ _ rm c₃ fun G₄ u s₄ l₄ c₄ ru => ?_))
      have c₅ := Core.open (W₁ := [(it, .raw o'), (acc, .lst done)]) c₁ (l₃.trans l₄) c₄
      have st₄ : St (i + 1) s₄.heap := I.at_ _ _ _ st₁ fun ox hx => by
        have h1 : s₁.heap.get? it = some o' := c₁.wok _ (.head _)
        have h2 : s₄.heap.get? it = some o' := c₅.wok _ (.head _)
        rw [h1] at hx; cases hx; exact h2
      obtain ⟨vs, hl, rvs⟩ := c₅.wok (acc, .lst done) (.tail _ (.head _))
      refine wpAny_bind (list_append_plainL hl (fun h' hl' hs' => wpAny_pure (wpAny_pure ⟨rfl, ?_⟩)) ?_)
      · have c₆ : Core D F G₄ ((it, .raw o') :: (acc, .lst (done ++ [q])) :: W₃) { s₄ with heap := h', toks := s₄.toks } := by
          refine Core.put (W₁ := [(it, .raw o')]) c₅ hs' ⟨vs ++ [u], ?_, rvs.append (.cons ru .nil)⟩
          have e : (vs ++ [u]).toArray = vs.toArray.push u := by simp
          rw [e]; exact hl'
        have st₆ : St (i + 1) h' := I.at_ _ _ _ st₄ fun ox hx => by
          have h1 : s₄.heap.get? it = some o' := c₅.wok _ (.head _)
          have h2 : h'.get? it = some o' := c₆.wok _ (.head _)
          rw [h1] at hx; cases hx; exact h2
        refine ih A F G₀ G₄ _ depth it acc o' St ps₀ (i + 1) (done ++ [q]) R rm hd I (((l0.trans l₁).trans l₃).trans l₄) hps' st₆ c₆ ?_ fun G' s' l' c' => k G' s' (((l₁.trans l₃).trans l₄).trans l') ?_
        · simp only [List.length_append, List.length_cons, List.length_nil] at hz ⊢; lia
        · rw [List.append_assoc] at c'; exact c'
      · rw [List.size_toArray, rvs.length, sizeLine_eq]; simp only [List.length_cons] at hz; lia
    · intro hp'; rw [hp0] at hp'; cases hp'
  | @deep t iter t' iter' ifs ifs' gs W W₁ W₂ W₃ W₄ W₅ p q ps qs out out' ha hi hq hit hfs hin hr ih1 ih2 =>
    intro A F G₀ G s depth it acc ob St ps₀ i done R rm hd I l0 hps st c hz k
    obtain ⟨hg, hg'⟩ := drop_head hd
    obtain ⟨hgn, _⟩ := drop_head hg'
    obtain ⟨hp0, hps'⟩ := drop_head hps
    refine codeAny_of_tree ?_
    show wpAny _ A ((compTurn (.ListComp elt gens scope pos) depth (.ref it) (.ref acc) cenv).onRaise (fun x => do noteFrame x cenv; theTreesLotGoes x)) _ _ s
    refine wpAny_noted ?_
    rw [compTurn_deep elt t iter t' iter' ifs ifs' gens scope pos depth (.ref it) (.ref acc) cenv hg hgn]
    refine wpAny_bind (wpAny_standAt (wpAny_bind (I.step A n F G _ ob s i _ _ rm c l0 st ?_ ?_)))
    · intro p' hp' G₁ o' v s₁ l₁ c₁ st₁ rv
      rw [hp0] at hp'; cases hp'
      refine wpAny_bind (I.owned st₁ ?_)
      have cs : Core D (foreign F s₁.heap [(it, .raw o'), (acc, .lst done)]) G₁ W s₁ := Core.shut (W₁ := [(it, .raw o'), (acc, .lst done)]) c₁
      refine wpAny_bind (ha A _ G₁ s₁ v _ _ rm cs rv fun s₂ c₂ => wpAny_bind (hi.wp A _ G₁ s₂ _ _ rm c₂ fun G₃ s₃ l₃ c₃ => ?_))
      rw [if_pos rfl]
      refine wpAny_bind (hq A _ G₃ s₃ _ _ rm c₃ fun G₄ u s₄ l₄ c₄ ru => wpAny_bind (wpAny_standAt (wpAny_bind (wpAny_of_eq (hfs u) (wpAny_bind (wpAny_holding (hit A _ G₄ W₃ s₄ u _ _ rm c₄ ru fun it₂ ob₂ G₅ St₂ s₅ I₂ l₅ c₅ st₅ => ?_)))))))
      have c₆ := Core.open (W₁ := [(it, .raw o'), (acc, .lst done)]) c₁ ((l₃.trans l₄).trans l₅) c₅
      -- the outer iterator is foreign to the inner walk
      have c₇ : Core D F G₅ ([(it, .raw o')] ++ ((it₂, .raw ob₂) :: (acc, .lst done) :: W₃)) s₅ := by
        refine ⟨c₆.base, c₆.inn, c₆.frn, c₆.apart, fun p hp => c₆.wG p ?_, fun p hp => c₆.wF p ?_, ?_, fun p hp => c₆.wok p ?_, c₆.gens, c₆.os⟩
        · simp only [List.cons_append, List.nil_append, List.mem_cons] at hp ⊢; rcases hp with h | h | h | h <;> simp [h]
        · simp only [List.cons_append, List.nil_append, List.mem_cons] at hp ⊢; rcases hp with h | h | h | h <;> simp [h]
        · have nd := c₆.nd
          simp only [List.cons_append, List.nil_append, List.map_cons, List.nodup_cons, List.mem_cons, not_or] at nd ⊢
          obtain ⟨⟨a1, a2, a3⟩, ⟨b1, b2⟩, b3, b4⟩ := nd
          exact ⟨⟨a2, a1, a3⟩, ⟨fun e => b1 e.symm, b3⟩, b2, b4⟩
        · simp only [List.cons_append, List.nil_append, List.mem_cons] at hp ⊢; rcases hp with h | h | h | h <;> simp [h]
      have c₈ := Core.shut (W₁ := [(it, .raw o')]) c₇
      refine wpAny_bind (wpAny_runOwn ?_)
      refine codeAny_compStart_at (D := D) hgn ?_ (fun Q E hQ => I₂.self _ s₅ 0 Q E st₅ hQ)
      refine ih1 A _ G₅ G₅ s₅ (depth + 1) it₂ acc ob₂ St₂ qs 0 done _ rm hg' I₂ Led.le.rfl rfl st₅ c₈ (by simp only [List.length_append] at hz; lia) fun G₉ s₉ l₉ c₉ => ?_
      have c₁₀ := Core.open (W₁ := [(it, .raw o')]) c₇ l₉ c₉
      have st₉ : St (i + 1) s₉.heap := I.at_ _ _ _ st₁ fun ox hx => by
        have h1 : s₁.heap.get? it = some o' := c₁.wok _ (.head _)
        have h2 : s₉.heap.get? it = some o' := c₁₀.wok _ (.head _)
        rw [h1] at hx; cases hx; exact h2
      refine wpAny_pure ⟨rfl, ih2 A F G₀ G₉ s₉ depth it acc o' St ps₀ (i + 1) (done ++ out) R rm hd I (((((l0.trans l₁).trans l₃).trans l₄).trans l₅).trans l₉) hps' st₉ c₁₀ ?_ fun G' s' l' c' => k G' s' (((((l₁.trans l₃).trans l₄).trans l₅).trans l₉).trans l') ?_⟩
      · simp only [List.length_append] at hz ⊢; lia
      · rw [List.append_assoc] at c'; exact c'
    · intro hp'; rw [hp0] at hp'; cases hp'
end
end

section
open PySem PySem.W PyProof.Rows PySem.Calls
section
variable {D : Wd} {n : Nat} {env cenv : Env} {L : Addr} {ns : Kinds} {cl : List (PySem.Str × Addr)} {W W' W₁ W₂ W₃ : Wld} {F G : Led} {s : Shared}
theorem Core.off {a : Addr} {m : MO} {h' : Heap} {t : Nat} (c : Core D F G (W₁ ++ (a, m) :: W₂) s) (hs : Heap.ExtBut a s.heap h') : Core D F G (W₁ ++ W₂) { s with heap := h', toks := t } := by
  have hm : (a, m) ∈ W₁ ++ (a, m) :: W₂ := List.mem_append.mpr (.inr (.head _))
  have hsub : (W₁ ++ W₂).Sublist (W₁ ++ (a, m) :: W₂) := List.Sublist.append_left (List.sublist_cons_self _ _) _
  have keep : ∀ b o, b ≠ a → s.heap.get? b = some o → h'.get? b = some o := fun b o hb e => hs b o hb e
  have nd := c.nd
  rw [List.map_append, List.map_cons, List.nodup_append, List.nodup_cons] at nd
  have ne : ∀ p ∈ W₁ ++ W₂, p.1 ≠ a := by
    intro p hp e
    rcases List.mem_append.mp hp with h1 | h1
    · exact nd.2.2 _ (List.mem_map_of_mem h1) _ (.head _) e
    · exact nd.2.1.1 (List.mem_map.mpr ⟨p, h1, e⟩)
  have c' := c.sub hsub
  exact ⟨c.base, fun b o g => keep b o (fun e => c.wG _ hm o (e ▸ g)) (c.inn b o g), fun b o g => keep b o (fun e => c.wF _ hm o (e ▸ g)) (c.frn b o g), c.apart, c'.wG, c'.wF, c'.nd,
    fun p hp => MO.mv Led.le.rfl (fun o e => keep _ o (ne p hp) e) (c'.wok p hp), c.gens, c.os⟩
theorem comp_block {elt t iter : Expr} {ifs : List Expr} {gs : List Comprehension} {scope : Scope} {pos : Pos} {p : PV} {ps out : List PV} (ok : EnvOk env L ns cl) (h1 : EvalR D n env W iter p W₁) (h2 : IterR D n p ps)
    (hk : scope.kind = .function) (hcell : ∀ x ∈ scope.names, x.2 ≠ .cell)
    (h3 : ∀ (C : Addr) (cenv : Env), EnvOk cenv C (relab ns scope.names) (closL cl scope.names []) → ∃ σ', CompR D n cenv elt (⟨t, iter, ifs, 0⟩ :: gs) ((C, .frame []) :: W₁) ps out ((C, .frame σ') :: W₂)) (hz : out.length ≤ 1000000)
    (A : Around) (F G : Led) (s : Shared) (RR : Value → Addr → Result → Shared → Prop) (E : Value → Shared → Prop) (rm : Room A n) (c : Core D F G W s)
    (k : ∀ (acc C : Addr) (σ' : Sg) (G' : Led) (s' : Shared), G.le G' → Core D F G' ((acc, .lst out) :: (C, .frame σ') :: W₂) s' → RR (.ref acc) C (.ok .next) s') :
    wpAny (model D.prog D.w) A (eval iter env) (fun x s₁ => wpAny (model D.prog D.w) A (pyIter x) (fun it s₂ => wpAny (model D.prog D.w) A (newList []) (fun acc s₃ =>
      wpAny (model D.prog D.w) A (newFunctionEnv scope env.globals (closL cl scope.names []) [] env.qual none .none (some env)) (fun cenv s₄ =>
        codeAny (model D.prog D.w) A (.compStart (.ListComp elt (⟨t, iter, ifs, 0⟩ :: gs) scope pos) 0 it acc { cenv with scope := relabel scope env }) (RR acc cenv.locals) s₄) E s₃) E s₂) E s₁) E s := by
  refine h1 A F G s _ E rm c fun G₁ v s₁ l₁ c₁ r₁ => h2 A F G₁ W₁ s₁ v _ E rm c₁ r₁ fun it ob G₂ St s₂ I l₂ c₂ st => ?_
  refine wpAny_newObj_type ?_ (by show ([] : List Value).toArray.size ≤ sizeLine; decide)
  have c₃ := c₂.new (t := s₂.toks) (x := s₂.heap.objs.size) (m := .lst []) (Nat.le_refl _) (fun _ _ e => Heap.get?_push_of_some { cls := .type "list", data := .seq ([] : List Value).toArray } e) ⟨[], ⟨_, _, Heap.get?_push_size _ rfl, rfl, rfl, rfl⟩, .nil⟩
  refine wpAny_newFunctionEnv hcell (by intro x hx; cases hx) (fun h' hns hsb => ?_) hk
  dsimp only at hns hsb ⊢
  have c₄ := c₃.new (t := s₂.toks + ([] : List (PySem.Str × Value)).length) (h' := h') (m := .frame []) (Nat.le_refl _) (fun a o e => hsb.extBut a o (Nat.ne_of_lt (Heap.lt_size e)) (Heap.get?_push_of_some _ e)) ⟨_, hns, fun x p e => by cases e⟩
  dsimp only at c₄
  generalize hC : (s₂.heap.push { cls := Value.type "list", data := Data.seq ([] : List Value).toArray }).objs.size = C at c₄ hns hsb ⊢
  generalize hacc : s₂.heap.objs.size = acc at c₄ hns hsb ⊢
  have eo : EnvOk { scope := relabel scope env, locals := C, globals := env.globals, cells := closL cl scope.names [], qual := env.qual, func := none, code := env.code, frame := env.frame, builtins := env.builtins } C (relab ns scope.names) (closL cl scope.names []) :=
    ⟨hk, fun x => by show (relabel scope env).names.lookup x = _; rw [relabel_names ok], rfl, ok.globals, ok.builtins, rfl⟩
  obtain ⟨σ', hcr⟩ := h3 C _ eo
  have c₅ : Core D F G₂ ((it, .raw ob) :: (acc, .lst []) :: (C, .frame []) :: W₁) { s₂ with heap := h', toks := s₂.toks + ([] : List (PySem.Str × Value)).length } := by
    refine ⟨c₄.base, c₄.inn, c₄.frn, c₄.apart, fun p hp => c₄.wG p ?_, fun p hp => c₄.wF p ?_, ?_, fun p hp => c₄.wok p ?_, c₄.gens, c₄.os⟩
    · simp only [List.mem_cons] at hp ⊢; rcases hp with h | h | h | h <;> simp [h]
    · simp only [List.mem_cons] at hp ⊢; rcases hp with h | h | h | h <;> simp [h]
    · have nd := c₄.nd
      simp only [List.map_cons, List.nodup_cons, List.mem_cons, not_or] at nd ⊢
      obtain ⟨⟨a1, a2, a3⟩, ⟨b1, b2⟩, b3, b4⟩ := nd
      exact ⟨⟨fun e => b1 e.symm, fun e => a2 e.symm, b3⟩, ⟨fun e => a1 e.symm, b2⟩, a3, b4⟩
    · simp only [List.mem_cons] at hp ⊢; rcases hp with h | h | h | h <;> simp [h]
  have st₅ : St 0 h' := I.at_ _ _ _ st fun ox hx => by
    have h1 : s₂.heap.get? it = some ob := c₂.wok _ (.head _)
    have h2 : h'.get? it = some ob := c₅.wok _ (.head _)
    rw [h1] at hx; cases hx; exact h2
  refine codeAny_compStart_at (D := D) rfl ?_ (fun Q E hQ => I.self _ _ 0 Q E st₅ hQ)
  exact hcr.code A F G₂ G₂ _ 0 it acc ob St ps 0 [] _ rm rfl I Led.le.rfl rfl st₅ c₅ (by simpa using hz) fun G' s' l' c' => k acc C σ' G' s' ((l₁.trans l₂).trans l') (by simpa using c')
theorem EvalR.comp {elt t iter : Expr} {ifs : List Expr} {gs : List Comprehension} {scope : Scope} {pos : Pos} {p : PV} {ps out : List PV} (ok : EnvOk env L ns cl) (h1 : EvalR D n env W iter p W₁) (h2 : IterR D n p ps)
    (hk : scope.kind = .function) (hcell : ∀ x ∈ scope.names, x.2 ≠ .cell) (hfree : freeIn cl scope.names) (hnames : ∀ x ∈ scope.names, x.2 = .local → scope.names.lookup x.1 = some .local)
    (h3 : ∀ (C : Addr) (cenv : Env), EnvOk cenv C (relab ns scope.names) (closL cl scope.names []) → ∃ σ', CompR D n cenv elt (⟨t, iter, ifs, 0⟩ :: gs) ((C, .frame []) :: W₁) ps out ((C, .frame σ') :: W₂)) (hz : out.length ≤ 1000000)
    (hs : ∀ x, foldedSetIterable iter env x = pure x := by intro _; rfl) : EvalR D n env W (.ListComp elt (⟨t, iter, ifs, 0⟩ :: gs) scope pos) (.list out) W₂ := by
  intro A F G s Q E rm c k
  rw [eval_ListComp]
  refine wpAny_comprehension_free (use := Option.none) rfl hs (by rw [closureFor_eq (ok.cells.symm ▸ hfree), ok.cells]) hk hnames ?_
  refine comp_block ok h1 h2 hk hcell h3 hz A F G s (fun acc C => compPost (model D.prog D.w) A E Option.none Q acc C) E rm c fun acc C σ' G' s' l' c' => ?_
  obtain ⟨m, hn, _⟩ := c'.wok (C, .frame σ') (.tail _ (.head _))
  refine ⟨m, hn, fun h'' hs'' => ?_⟩
  have c₂ := Core.off (W₁ := [(acc, .lst out)]) (t := s'.toks) c' hs''.extBut
  obtain ⟨ob, c₃, r⟩ := Core.still (W₁ := []) c₂
  exact k _ _ _ (l'.trans Led.le_add) c₃ r
theorem ExecS.assignComp {y : PySem.Str} {elt t iter : Expr} {ifs : List Expr} {gs : List Comprehension} {scope : Scope} {py pos spos : Pos} {p : PV} {ps out : List PV} (ok : EnvOk env L ns cl) (h1 : EvalR D n env W iter p W₁) (h2 : IterR D n p ps)
    (hk : scope.kind = .function) (hcell : ∀ x ∈ scope.names, x.2 ≠ .cell) (hfree : freeIn cl scope.names) (hnames : ∀ x ∈ scope.names, x.2 = .local → scope.names.lookup x.1 = some .local)
    (h3 : ∀ (C : Addr) (cenv : Env), EnvOk cenv C (relab ns scope.names) (closL cl scope.names []) → ∃ σ', CompR D n cenv elt (⟨t, iter, ifs, 0⟩ :: gs) ((C, .frame []) :: W₁) ps out ((C, .frame σ') :: W₂)) (hz : out.length ≤ 1000000)
    (h4 : StoreR D env W₂ y (.list out) W₃) (hy : ns.lookup y = some .local) (hline : (spos.line == pos.line) = true → (py.line == pos.line) = true) (hl : (py.line == pos.line) = true) (hny : (scope.names.any fun x => x.1 == y && (x.2 == .local || x.2 == .cell)) = false)
    (hs : ∀ x, foldedSetIterable iter env x = pure x := by intro _; rfl) : ExecS D n env W (.Assign [.Name y py] (.ListComp elt (⟨t, iter, ifs, 0⟩ :: gs) scope pos) spos) (.next W₃) := by
  intro A F G s Q E rm c k
  have hsw : swapsWith (.ListComp elt (⟨t, iter, ifs, 0⟩ :: gs) scope pos) (some (.Name y py)) spos.line env = pure true := by
    have hb : env.blockKind = .function := by unfold Env.blockKind; rw [ok.kind]; rfl
    have hy' : (env.kindOf y == some .local) = true := by rw [ok.names y, hy]; rfl
    unfold swapsWith
    show pure (env.blockKind == .function && env.kindOf y == some .local && py.line == pos.line && !(scope.names.any fun (n, k) => n == y && (k == .local || k == .cell))) = pure true
    rw [hb, hy', hl]
    have : (scope.names.any fun (n, k) => n == y && (k == .local || k == .cell)) = false := hny
    rw [this]; rfl
  rw [exec_Assign_Name_used _ _ _ _ hsw]
  refine wpAny_bind (wpAny_standAt (wpAny_bind ?_))
  show wpAny _ A (do let _ ← comprehension (.ListComp elt (⟨t, iter, ifs, 0⟩ :: gs) scope pos) scope env _ (newList []) false (eval iter env) (some (PySem.assign (.Name y py) env))) _ _ s
  refine wpAny_bind (wpAny_mono (wpAny_comprehension_free (use := some (PySem.assign (.Name y py) env)) (Q := fun _ s' => Q .next s') rfl hs (by rw [closureFor_eq (ok.cells.symm ▸ hfree), ok.cells]) hk hnames ?_) (fun _ s' hq => wpAny_pure (wpAny_pure hq)) fun _ _ e => e)
  refine comp_block ok h1 h2 hk hcell h3 hz A F G s (fun acc C => compPost (model D.prog D.w) A E (some (PySem.assign (.Name y py) env)) (fun _ s' => Q .next s') acc C) E rm c fun acc C σ' G' s' l' c' => ?_
  show wpAny _ A (PySem.assign (.Name y py) env (.ref acc)) _ _ _
  obtain ⟨ob, c₂, r⟩ := Core.still (W₁ := []) c'
  have c₃ := Core.shut (W₁ := [(C, .frame σ')]) (W₂ := W₂) c₂
  refine wpAny_assign_Name (h4 A _ _ s' _ _ E c₃ r fun s₄ c₄ => ?_)
  have c₅ := Core.open (W₁ := [(C, .frame σ')]) (W₂ := W₂) c₂ Led.le.rfl c₄
  obtain ⟨m, hn, _⟩ := c₅.wok (C, .frame σ') (.head _)
  exact ⟨m, hn, fun h'' hs'' => k _ _ (l'.trans Led.le_add) (Core.off (W₁ := []) (t := s₄.toks) c₅ hs''.extBut)⟩
inductive WhileR (D : Wd) (n : Nat) (env : Env) (test : Expr) (body orelse : List Stmt) : Nat → Wld → Out → Prop
  | stop {W W₁ : Wld} {o : Out} : TestR D n env W test false W₁ → ExecR D n env W₁ orelse o → WhileR D n env test body orelse 0 W o
  | next {m : Nat} {W W₁ W₂ : Wld} {o : Out} : TestR D n env W test true W₁ → ExecR D n env W₁ body (.next W₂) → WhileR D n env test body orelse m W₂ o → WhileR D n env test body orelse (m + 1) W o
  | cont {m : Nat} {W W₁ W₂ : Wld} {o : Out} : TestR D n env W test true W₁ → ExecR D n env W₁ body (.cont W₂) → WhileR D n env test body orelse m W₂ o → WhileR D n env test body orelse (m + 1) W o
  | brk {W W₁ W₂ : Wld} : TestR D n env W test true W₁ → ExecR D n env W₁ body (.brk W₂) → WhileR D n env test body orelse 0 W (.next W₂)
  | ret {W W₁ W₂ : Wld} {q : PV} : TestR D n env W test true W₁ → ExecR D n env W₁ body (.ret q W₂) → WhileR D n env test body orelse 0 W (.ret q W₂)
theorem ExecS.while {test : Expr} {body orelse : List Stmt} {pos : Pos} {m : Nat} {o : Out} (h : WhileR D n env test body orelse m W o) : ExecS D n env W (.While test body orelse pos) o := by
  intro A F G s Q E rm c k
  refine wpAny_While (codeAny_whileLoop (fun m s => ∃ G' W', G.le G' ∧ Core D F G' W' s ∧ WhileR D n env test body orelse m W' o) ?_ m ⟨G, W, Led.le.rfl, c, h⟩)
  rintro m s' ⟨G', W', lg, c', hw⟩
  have k' : o.post D F G' Q := Out.post_le lg k
  cases hw with
  | stop ht hb =>
    refine ht A F G' s' _ _ rm c' fun G₁ s₁ l₁ c₁ => ?_
    rw [if_neg (by decide)]
    exact hb A F G₁ s₁ Q _ rm c₁ (Out.post_le l₁ k')
  | next ht hb hr =>
    refine ht A F G' s' _ _ rm c' fun G₁ s₁ l₁ c₁ => ?_
    rw [if_pos rfl]
    exact hb A F G₁ s₁ _ _ rm c₁ fun G₂ s₂ l₂ c₂ => ⟨_, Nat.lt_succ_self _, G₂, _, (lg.trans l₁).trans l₂, c₂, hr⟩
  | cont ht hb hr =>
    refine ht A F G' s' _ _ rm c' fun G₁ s₁ l₁ c₁ => ?_
    rw [if_pos rfl]
    exact hb A F G₁ s₁ _ _ rm c₁ fun G₂ s₂ l₂ c₂ => ⟨_, Nat.lt_succ_self _, G₂, _, (lg.trans l₁).trans l₂, c₂, hr⟩
  | brk ht hb =>
    refine ht A F G' s' _ _ rm c' fun G₁ s₁ l₁ c₁ => ?_
    rw [if_pos rfl]
    exact hb A F G₁ s₁ _ _ rm c₁ fun G₂ s₂ l₂ c₂ => k' G₂ s₂ (l₁.trans l₂) c₂
  | ret ht hb =>
    refine ht A F G' s' _ _ rm c' fun G₁ s₁ l₁ c₁ => ?_
    rw [if_pos rfl]
    exact hb A F G₁ s₁ _ _ rm c₁ fun G₂ v s₂ l₂ c₂ r => k' G₂ v s₂ (l₁.trans l₂) c₂ r
end
end

section
open PySem PySem.W PyProof.Rows PySem.Calls
section
variable {D : Wd} {n : Nat} {env cenv : Env} {L : Addr} {ns : Kinds} {cl : List (PySem.Str × Addr)} {W W' W₁ W₂ W₃ : Wld} {F G : Led} {s : Shared}
theorem CallR.of1 {f : Value} {p r : PV} (h : ∀ (A : Around) (F G : Led) (W : Wld) (s : Shared) (a : Value) (Q : Value → Shared → Prop) (E : Value → Shared → Prop), Room A n → Core D F G W s → Rep G a p → (∀ G' v s', G.le G' → Core D F G' W s' → Rep G' v r → Q v s') → wpAny (model D.prog D.w) A (call f [a] []) Q E s) :
    CallR D n W f [p] [] r W := by
  intro A F G s vs ks Q E rm c ra hk rk k
  obtain rfl : ks = [] := by simpa using hk
  obtain ⟨v1, rfl, r1⟩ := ra.one
  exact h A F G W s _ Q E rm c r1 k
theorem CallR.of2 {f : Value} {p q r : PV} (h : ∀ (A : Around) (F G : Led) (W : Wld) (s : Shared) (a b : Value) (Q : Value → Shared → Prop) (E : Value → Shared → Prop), Room A n → Core D F G W s → Rep G a p → Rep G b q → (∀ G' v s', G.le G' → Core D F G' W s' → Rep G' v r → Q v s') → wpAny (model D.prog D.w) A (call f [a, b] []) Q E s) :
    CallR D n W f [p, q] [] r W := by
  intro A F G s vs ks Q E rm c ra hk rk k
  obtain rfl : ks = [] := by simpa using hk
  obtain ⟨v1, v2, rfl, r1, r2⟩ := ra.two
  exact h A F G W s _ _ Q E rm c r1 r2 k
theorem CallR.lenl {ps : List PV} (hz : ps.length ≤ 1000000) : CallR D n W (.builtin "len") [.list ps] [] (.int ps.length) W := CallR.of1 fun A F G W s a Q E rm c r k => by
  obtain ⟨l, rfl⟩ := r.list_ref
  obtain ⟨vs, hl, rs⟩ := r.isList c
  have hfit : (vs.toArray.size : Int) < 2 ^ 63 := by rw [List.size_toArray, rs.length]; lia
  with_reducible refine call_len_list hl hfit ?_
  rw [List.size_toArray, rs.length]
  exact k G _ _ Led.le.rfl (c.toks _) (.int _ _)
theorem CallR.lens {x : PySem.Str} (hz : x.length ≤ 16777216) : CallR D n W (.builtin "len") [.str x] [] (.int x.length) W := CallR.of1 fun A F G W s a Q E rm c r k => by
  obtain ⟨t, rfl⟩ := r.str_v
  with_reducible refine P.len_str (by lia) ?_
  exact k G _ _ Led.le.rfl (c.toks _) (.int _ _)
theorem CallR.range1 {m : Int} : CallR D n W (.type "range") [.int m] [] (.range m) W := CallR.of1 fun A F G W s a Q E rm c r k => by
  obtain ⟨t, rfl⟩ := r.int_v
  with_reducible refine call_range_1 ?_
  exact k _ _ _ Led.le_add ((c.made (ob := { cls := .type "range", data := .fields #[.int 0 s.toks, .int m t, .int 1 (s.toks + 1)] }) rfl).toks _) (.range (.inr ⟨rfl, rfl⟩))
theorem CallR.starts {x y : PySem.Str} : CallR D n W (.builtin "str.startswith") [.str x, .str y] [] (.bool (Txt.startswith x y)) W := CallR.of2 fun A F G W s a b Q E rm c ra rb k => by
  obtain ⟨t, rfl⟩ := ra.str_v; obtain ⟨u, rfl⟩ := rb.str_v
  with_reducible refine SC.startswith ?_
  exact k G _ _ Led.le.rfl c (.bool _)
theorem CallR.ends {x y : PySem.Str} : CallR D n W (.builtin "str.endswith") [.str x, .str y] [] (.bool (Txt.endswith x y)) W := CallR.of2 fun A F G W s a b Q E rm c ra rb k => by
  obtain ⟨t, rfl⟩ := ra.str_v; obtain ⟨u, rfl⟩ := rb.str_v
  with_reducible refine SC.endswith ?_
  exact k G _ _ Led.le.rfl c (.bool _)
theorem CallR.rfind {x y : PySem.Str} : CallR D n W (.builtin "str.rfind") [.str x, .str y] [] (.int (Txt.rfind x y)) W := CallR.of2 fun A F G W s a b Q E rm c ra rb k => by
  obtain ⟨t, rfl⟩ := ra.str_v; obtain ⟨u, rfl⟩ := rb.str_v
  with_reducible refine SC.rfind ?_
  exact k G _ _ Led.le.rfl (c.toks _) (.int _ _)
theorem CallR.rstrip {x y : PySem.Str} (hz : x.length ≤ 16777216) : CallR D n W (.builtin "str.rstrip") [.str x, .str y] [] (.str (Txt.rstripChars x y)) W := CallR.of2 fun A F G W s a b Q E rm c ra rb k => by
  obtain ⟨t, rfl⟩ := ra.str_v; obtain ⟨u, rfl⟩ := rb.str_v
  have hz' : x.length ≤ sizeLine := by rw [sizeLine_eq]; exact hz
  with_reducible refine SC.rstripChars ?_ hz'
  exact fun t' j => k G _ _ Led.le.rfl (c.toks _) (.str _ _)
end
end

section
open PySem PySem.W PyProof.Rows PySem.Calls
section
variable {D : Wd} {n : Nat} {W : Wld}
theorem CallR.typeOf {p : PV} {T : String} (h : p.ty = some T) (hn : (Value.type T == Value.type "builtin_function_or_method") = false) : CallR D n W (.type "type") [p] [] (.con (.type T)) W := CallR.of1 fun A F G W s a Q E rm c r k => by
  have hT := r.typeIs c h
  with_reducible refine call_type_of hT hn ?_
  exact k G _ _ Led.le.rfl c (.con _)
theorem CallR.isBytes {x : PySem.Str} : CallR D n W (.builtin "isinstance") [.str x, .con (.type "bytes")] [] (.bool false) W := CallR.of2 fun A F G W s a b Q E rm c ra rb k => by
  obtain ⟨t, rfl⟩ := ra.str_v; obtain rfl := rb.con_v
  with_reducible refine IsiPair.str_bytes ?_
  exact k G _ _ Led.le.rfl (c.toks _) (.bool _)
theorem CallR.isStr {x : PySem.Str} : CallR D n W (.builtin "isinstance") [.str x, .con (.type "str")] [] (.bool true) W := CallR.of2 fun A F G W s a b Q E rm c ra rb k => by
  obtain ⟨t, rfl⟩ := ra.str_v; obtain rfl := rb.con_v
  with_reducible refine IsiPair.str_str ?_
  exact k G _ _ Led.le.rfl c (.bool _)
theorem kind_issubclass_nested : builtinKind "issubclass.nested" = none := by decide +kernel
theorem plain_issubclass_nested : plainId "issubclass.nested" = true := by decide +kernel
theorem args_issubclass_nested_3 (a b c : Value) : argsOk "issubclass.nested" ⟨[a, b, c], []⟩ := by unfold argsOk; kernel_rfl
theorem issub_str : ∀ (dep : Int) (tk : Tok), Meets (Builtin.«issubclass.nested» ⟨[.type "str", .type "str", .int dep tk], []⟩) (fun _ R s => R (.ok (.ret (.bool true))) s) := fun dep tk _ _ _ _ _ q => by
  have hm := F.isi_meta_str
  have hself := F.sub_str_str
  repeat (any_goals (first | assumption | (rw [if_pos hm]) | (rw [hself]) | wp_step))
theorem issub_tuple {prog : Program} {w : World} {A : Around} {E : Value → Shared → Prop} {tp : Addr} {cl : Value} {o : Obj} {x : Value} {m : Nat} {tk : Tok} {s : Shared} {Q : Fin → Shared → Prop} {arr : Array Value} (htp : s.heap.get? tp = some o) (hc : o.cls = .type "tuple") (hd : o.data = .seq arr m) (harr : arr = #[.type "str", x])
    (hq : ∀ tk', Q (.done (.ret (.bool true))) { s with toks := tk' }) : wpAny (model prog w) A (Builtin.«issubclass.nested» ⟨[.type "str", .ref tp, .int 0 tk], []⟩) Q E s := by
  obtain ⟨h, g, d, t, os⟩ := s
  obtain ⟨cls, dd, data, sl⟩ := o
  simp only at hc hd
  subst hc hd
  have hT2 : (⟨h, g, d, t, os⟩ : Shared).TypeIs (.ref tp) "tuple" := ⟨_, htp, rfl⟩
  have f1 := F.isi_sub_tuple
  repeat (any_goals (first | assumption | wp_step))
  refine wpAny_arrayLoop ?_
  subst harr
  simp only [Option.getD_some, List.toList_toArray]
  rw [List.forIn_cons]
  refine wpAny_bind (wpAny_bind (call_function_meets kind_issubclass_nested plain_issubclass_nested F.entry_issubclass_nested (args_issubclass_nested_3 _ _ _) (issub_str _ _) ?_))
  show wpAny _ _ (truthy (.bool true) >>= _) _ _ _
  refine wpAny_bind (m := truthy (.bool true)) (wpAny_pure ?_)
  exact wpAny_bind (wpAny_pure (wpAny_pure (wpAny_pure (wpAny_pure (hq _)))))
theorem CallR.issub : CallR D n W (.builtin "issubclass") [.con (.type "str"), .tup [.con (.type "str"), .con (.type "bytes")]] [] (.bool true) W := CallR.of2 fun A F G W s a b Q E rm c ra rb k => by
  obtain rfl := ra.con_v
  obtain ⟨t, o, vs, m, rfl, g, hc, hd, rs⟩ := rb.tup_v
  obtain ⟨v1, v2, rfl, r1, r2⟩ := RepAll.two rs; obtain rfl := r1.con_v; obtain rfl := r2.con_v
  have hg := c.inn _ _ g
  refine call_issubclass (S := fun _ R s' => ∃ o', s'.heap.get? t = some o' ∧ o'.cls = .type "tuple" ∧ o'.data = .seq #[.type "str", .type "bytes"] m ∧ ∀ tk', R (.ok (.ret (.bool true))) { s' with toks := tk' }) ?_ ⟨o, hg, hc, hd, fun tk' => k G _ _ Led.le.rfl (c.toks _) (.bool _)⟩
  rintro _ _ _ _ _ ⟨o', g1, g2, g3, hs⟩
  exact issubclass_outer (issub_tuple (cl := .none) g1 g2 g3 rfl hs)
end
end

section
open PySem PySem.W PyProof.Rows PySem.Calls PySem.Builtin PySem.Builtin.Str
section
variable {D : Wd} {n : Nat} {env : Env} {L : Addr} {ns : Kinds} {cl : List (PySem.Str × Addr)} {W W' W₁ W₂ W₃ : Wld} {F G : Led} {s : Shared}
theorem repStrs {G : Led} : ∀ (l : List (PySem.Str × Tok)), RepAll G (strValues l) ((l.map (·.1)).map .str)
  | [] => .nil
  | (x, t) :: l => .cons (.str x t) (repStrs l)
theorem CallR.split {x y : PySem.Str} (hy : (y.length == 0) = false) (hsz : x.length ≤ 1000000) : CallR D n W (.builtin "str.split") [.str x, .str y] [] (.list ((Txt.split x y).map .str)) W := CallR.of2 fun A Fo G W s a b Q E rm c ra rb k => by
  obtain ⟨t, rfl⟩ := ra.str_v
  obtain ⟨u, rfl⟩ := rb.str_v
  have hsz1 : x.length ≤ sizeLine := by rw [sizeLine_eq]; lia
  have hsz2 : (partsBetween x (occurrences x y 0 x.length (x.length + 1)) y.length).length ≤ sizeLine := by
    have h1 := StrLaws.occ_length_le x y 0 x.length (x.length + 1)
    rw [sizeLine_eq]
    have h2 : ∀ (l : List Nat) (x : PySem.Str) (m : Nat), (partsBetween x l m).length = l.length + 1 := by
      intro l x m; unfold partsBetween; simp
    rw [h2]; lia
  have fin : ∀ (l : List (PySem.Str × Tok)) (tk : Nat), l.map (·.1) = Txt.split x y → Q (.ref s.heap.objs.size) { s with toks := tk, heap := s.heap.push { cls := .type "list", data := .seq (strValues l).toArray } } := by
    intro l tk e
    refine k _ _ _ Led.le_add ((c.made (ob := { cls := .type "list", data := .seq (strValues l).toArray }) rfl).toks tk) ?_
    rw [← e]
    exact .list (.inr ⟨rfl, rfl⟩) rfl rfl ((repStrs l).mono Led.le_add)
  cases h1 : (decide (x.length < y.length) || decide (strKind x < strKind y))
  · cases hf : (occurrences x y 0 x.length (x.length + 1)).isEmpty
    · refine call_meets PySem.F.slot_str_split (typeIs_str _ _ _) F.entry_str_split (F.args_str_split_2 _ _) (meets_str_split_sep x y t u h1 hy hf hsz1 hsz2) ?_
      show wants Q E _ { s with toks := _, heap := s.heap.push { cls := .type "list", data := .seq (strsFrom s.toks (partsBetween x (occurrences x y 0 x.length (x.length + 1)) y.length)).toArray } }
      rw [strsFrom_eq]
      exact fin (numbered s.toks _) _ ((numbered_texts _ _).trans ((if_neg (ne_true_of_eq_false h1)).trans (if_neg (ne_true_of_eq_false hf))).symm)
    · exact call_meets PySem.F.slot_str_split (typeIs_str _ _ _) F.entry_str_split (F.args_str_split_2 _ _) (meets_str_split_not_found x y t u h1 hy hf)
        (fin [(x, t)] s.toks ((if_neg (ne_true_of_eq_false h1)).trans (if_pos hf)).symm)
  · exact call_meets PySem.F.slot_str_split (typeIs_str _ _ _) F.entry_str_split (F.args_str_split_2 _ _) (meets_str_split_cannot_occur x y t u h1)
      (fin [(x, t)] s.toks (if_pos h1).symm)
theorem CallR.join {x : PySem.Str} {ys : List PySem.Str} (hok : (ys.map (·.length)).sum + ys.length * x.length ≤ 16777216) : CallR D n W (.builtin "str.join") [.str x, .list (ys.map .str)] [] (.str (Txt.join x ys)) W := CallR.of2 fun A F G W s a b Q E rm c ra rb k => by
  obtain ⟨t, rfl⟩ := ra.str_v
  obtain ⟨l, rfl⟩ := rb.list_ref
  obtain ⟨vs, hl, rs⟩ := rb.isList c
  with_reducible exact join_list hl (strsOf rs) hok (fun t' j => k G _ _ Led.le.rfl (c.toks _) (.str _ _))
theorem keepB {id : String} : Keeper D (.builtin id) := .inl (fun _ h => nomatch h)
theorem keepT {id : String} : Keeper D (.type id) := .inl (fun _ h => nomatch h)
section
variable {o : Expr} {apos pos : Pos} {args : List Expr} {x y : PySem.Str}
theorem E.startswith (ho : EvalR D n env W o (.str x) W₁) (ha : EvalsR D n env W₁ args [.str y] W₂) (hbase : ∀ t, attributeBase o "startswith" env t = t := by intro _; rfl) (hn : args.length < 30 := by decide) (hline : (apos.endLine == pos.line) = true := by rfl) :
    EvalR D n env W (.Call (.Attribute o "startswith" apos) args [] pos) (.bool (Txt.startswith x y)) W₂ := EvalR.meth hbase ho rfl (by decide) F.plainAttrs_str F.slot_str_startswith F.type_str_startswith ha CallR.starts hn hline
theorem E.endswith (ho : EvalR D n env W o (.str x) W₁) (ha : EvalsR D n env W₁ args [.str y] W₂) (hbase : ∀ t, attributeBase o "endswith" env t = t := by intro _; rfl) (hn : args.length < 30 := by decide) (hline : (apos.endLine == pos.line) = true := by rfl) :
    EvalR D n env W (.Call (.Attribute o "endswith" apos) args [] pos) (.bool (Txt.endswith x y)) W₂ := EvalR.meth hbase ho rfl (by decide) F.plainAttrs_str F.slot_str_endswith F.type_str_endswith ha CallR.ends hn hline
theorem E.rfind (ho : EvalR D n env W o (.str x) W₁) (ha : EvalsR D n env W₁ args [.str y] W₂) (hbase : ∀ t, attributeBase o "rfind" env t = t := by intro _; rfl) (hn : args.length < 30 := by decide) (hline : (apos.endLine == pos.line) = true := by rfl) :
    EvalR D n env W (.Call (.Attribute o "rfind" apos) args [] pos) (.int (Txt.rfind x y)) W₂ := EvalR.meth hbase ho rfl (by decide) F.plainAttrs_str F.slot_str_rfind F.type_str_rfind ha CallR.rfind hn hline
theorem E.rstrip (hz : x.length ≤ 16777216) (ho : EvalR D n env W o (.str x) W₁) (ha : EvalsR D n env W₁ args [.str y] W₂) (hbase : ∀ t, attributeBase o "rstrip" env t = t := by intro _; rfl) (hn : args.length < 30 := by decide) (hline : (apos.endLine == pos.line) = true := by rfl) :
    EvalR D n env W (.Call (.Attribute o "rstrip" apos) args [] pos) (.str (Txt.rstripChars x y)) W₂ := EvalR.meth hbase ho rfl (by decide) F.plainAttrs_str F.slot_str_rstrip F.type_str_rstrip ha (CallR.rstrip hz) hn hline
theorem E.split (hy : (y.length == 0) = false) (hz : x.length ≤ 1000000) (ho : EvalR D n env W o (.str x) W₁) (ha : EvalsR D n env W₁ args [.str y] W₂) (hbase : ∀ t, attributeBase o "split" env t = t := by intro _; rfl) (hn : args.length < 30 := by decide) (hline : (apos.endLine == pos.line) = true := by rfl) :
    EvalR D n env W (.Call (.Attribute o "split" apos) args [] pos) (.list ((Txt.split x y).map .str)) W₂ := EvalR.meth hbase ho rfl (by decide) F.plainAttrs_str F.slot_str_split F.type_str_split ha (CallR.split hy hz) hn hline
theorem E.join {ys : List PySem.Str} (ho : EvalR D n env W o (.str x) W₁) (ha : EvalsR D n env W₁ args [.list (ys.map .str)] W₂) (hok : (ys.map (·.length)).sum + ys.length * x.length ≤ 16777216) (hbase : ∀ t, attributeBase o "join" env t = t := by intro _; rfl) (hn : args.length < 30 := by decide) (hline : (apos.endLine == pos.line) = true := by rfl) :
    EvalR D n env W (.Call (.Attribute o "join" apos) args [] pos) (.str (Txt.join x ys)) W₂ := EvalR.meth hbase ho rfl (by decide) F.plainAttrs_str F.slot_str_join F.type_str_join ha (CallR.join hok) hn hline
end
section
variable {value slice : Expr} {lower upper : Option Expr} {p pos : Pos} {x : PySem.Str} {l u : Option Int} {ps : List PV} {q : PV} {i : Int}
theorem look_list : typeLookup (.type "list") "__getitem__" = pure (some (.builtin "list.__getitem__")) := list_getitem_lookup
theorem look_str : typeLookup (.type "str") "__getitem__" = pure (some (.builtin "str.__getitem__")) := F.slot_str_getitem.lookup
theorem look_tuple : typeLookup (.type "tuple") "__getitem__" = pure (some (.builtin "tuple.__getitem__")) := F.slot_tuple_getitem.lookup
theorem E.cut (h1 : EvalR D n env W value (.str x) W₁) (h2 : PartR D n env W₁ lower l W₂) (h3 : PartR D n env W₂ upper u W₃) (hz : x.length ≤ 16777216) :
    EvalR D n env W (.Subscript value (.Slice lower upper Option.none p) pos) (.str (Txt.slice x l u)) W₃ := EvalR.sub h1 (EvalR.slice h2 h3) rfl look_str (OpR.cuts hz)
theorem E.upto {e : Expr} (h1 : EvalR D n env W value (.list ps) W₁) (h2 : EvalR D n env W₁ e (.int i) W₂) (h0 : 0 ≤ i) (hz : ps.length ≤ 1000000) :
    EvalR D n env W (.Subscript value (.Slice Option.none (some e) Option.none p) pos) (.list (ps.take i.toNat)) W₂ := EvalR.sub h1 (EvalR.slice .none (.some h2)) rfl look_list (OpR.upto h0 hz)
theorem E.from {e : Expr} (h1 : EvalR D n env W value (.list ps) W₁) (h2 : EvalR D n env W₁ e (.int i) W₂) (h0 : 0 ≤ i) (hz : ps.length ≤ 1000000) :
    EvalR D n env W (.Subscript value (.Slice (some e) Option.none Option.none p) pos) (.list (ps.drop i.toNat)) W₂ := EvalR.sub h1 (EvalR.slice (.some h2) .none) rfl look_list (OpR.from h0 hz)
theorem E.iteml (h1 : EvalR D n env W value (.list ps) W₁) (h2 : EvalR D n env W₁ slice (.int i) W₂) (h0 : 0 ≤ i) (hi : i < 2 ^ 62) (hx : ps[i.toNat]? = some q) :
    EvalR D n env W (.Subscript value slice pos) q W₂ := EvalR.sub h1 h2 rfl look_list (OpR.iteml h0 hi hx)
theorem E.itemt (h1 : EvalR D n env W value (.tup ps) W₁) (h2 : EvalR D n env W₁ slice (.int i) W₂) (h0 : 0 ≤ i) (hi : i < 2 ^ 62) (hx : ps[i.toNat]? = some q) :
    EvalR D n env W (.Subscript value slice pos) q W₂ := EvalR.sub h1 h2 rfl look_tuple (OpR.itemt h0 hi hx)
theorem E.items (h1 : EvalR D n env W value (.str x) W₁) (h2 : EvalR D n env W₁ slice (.int i) W₂) (h0 : 0 ≤ i) (hi : i < x.length) (hz : x.length ≤ 16777216) :
    EvalR D n env W (.Subscript value slice pos) (.str (Txt.item x i)) W₂ := EvalR.sub h1 h2 rfl look_str (OpR.items h0 hi hz)
end
end
end

section
open PySem PySem.W PyProof.Rows PySem.Calls
section
variable {D : Wd} {n : Nat} {env : Env} {L : Addr} {ns : Kinds} {cl : List (PySem.Str × Addr)} {W W' W₁ W₂ W₃ : Wld}
noncomputable def ExecK (D : Wd) (n : Nat) (env : Env) : Wld → List (List Stmt) → Out → Prop
  | W, [], o => o = .next W
  | W, b :: bs, o => (∃ W', ExecR D n env W b (.next W') ∧ ExecK D n env W' bs o) ∨ (ExecR D n env W b o ∧ o.stops = true)
theorem ExecK.done : ExecK D n env W [] (.next W) := rfl
theorem ExecK.nil {bs : List (List Stmt)} {o : Out} (h : ExecK D n env W bs o) : ExecK D n env W ([] :: bs) o := .inl ⟨W, ExecR.nil, h⟩
theorem ExecK.st {st : Stmt} {r : List Stmt} {bs : List (List Stmt)} {o : Out} (h1 : ExecS D n env W st (.next W₁)) (h2 : ExecK D n env W₁ (r :: bs) o) : ExecK D n env W ((st :: r) :: bs) o := by
  rcases h2 with ⟨W', h3, h4⟩ | ⟨h3, h4⟩
  · exact .inl ⟨W', ExecR.cons h1 h3, h4⟩
  · exact .inr ⟨ExecR.cons h1 h3, h4⟩
theorem ExecS.go {st : Stmt} {r : List Stmt} (h : ExecS D n env W st (.next W₁)) {A : Around} {F G : Led} {s : Shared} {Q : Flow → Shared → Prop} {E : Value → Shared → Prop} (rm : Room A n) (c : Core D F G W s)
    (k : ∀ G' s', G.le G' → Core D F G' W₁ s' → wpAny (model D.prog D.w) A (execs r env) Q E s') : wpAny (model D.prog D.w) A (execs (st :: r) env) Q E s := wpAny_execs_cons (h A F G s _ E rm c fun G' s' l c' => k G' s' l c')
theorem ExecK.stop {st : Stmt} {r : List Stmt} {bs : List (List Stmt)} {o : Out} (h1 : ExecS D n env W st o) (ho : o.stops = true := by rfl) : ExecK D n env W ((st :: r) :: bs) o := .inr ⟨ExecR.stop h1 ho, ho⟩
theorem Core.blank {D : Wd} {F G : Led} {W : Wld} {s : Shared} {L : Addr} {σ : Sg} (c : Core D F G ((L, .frame σ) :: W) s) : Core D F G ((L, .frame []) :: W) s :=
  c.tellW .here fun ⟨m, h, _⟩ => ⟨m, h, fun x p e => by simp at e⟩
theorem ExecK.retF {L : Addr} {σ : Sg} {e : Expr} {p : PV} {pos : Pos} {r : List Stmt} {bs : List (List Stmt)} (h : EvalR D n env W e p ((L, .frame σ) :: W₁)) : ExecK D n env W ((.Return (some e) pos :: r) :: bs) (.ret p ((L, .frame []) :: W₁)) :=
  ExecK.stop (ExecS.ret fun A F G s Q E rm c k => h A F G s Q E rm c fun G' v s' l c' r => k G' v s' l c'.blank r)
theorem ExecK.brk {pos : Pos} {r : List Stmt} {bs : List (List Stmt)} : ExecK D n env W ((.Break pos :: r) :: bs) (.brk W) := ExecK.stop ExecS.brk
theorem ExecK.assign {x : PySem.Str} {e : Expr} {pos' pos : Pos} {p : PV} {r : List Stmt} {bs : List (List Stmt)} {o : Out} (h1 : EvalR D n env W e p W₁) (h2 : StoreR D env W₁ x p W₂) (h3 : ExecK D n env W₂ (r :: bs) o) (hs : swapsWith e (some (.Name x pos')) pos.line env = pure false := by rfl) :
    ExecK D n env W ((.Assign [.Name x pos'] e pos :: r) :: bs) o := ExecK.st (ExecS.assign h1 h2 hs) h3
theorem ExecK.expr {e : Expr} {pos : Pos} {r : List Stmt} {bs : List (List Stmt)} {o : Out} (ok : EnvOk env L ns cl) (h : EvalR D n env W e .none W₁) (h3 : ExecK D n env W₁ (r :: bs) o) (hs : swapsWith e none pos.line env = pure false := by rfl) :
    ExecK D n env W ((.Expr e pos :: r) :: bs) o := ExecK.st (ExecS.expr h ok.inter hs) h3
theorem ExecK.aug {x : PySem.Str} {op : Operator} {e : Expr} {pos' pos : Pos} {p q t : PV} {r : List Stmt} {bs : List (List Stmt)} {o : Out} (h1 : ∀ np, EvalR D n env W (.Name x np) p W) (h2 : EvalR D n env W e q W₁) (h3 : OpR D n (inplaceOp op) p q t) (h4 : StoreR D env W₁ x t W₂)
    (h5 : ExecK D n env W₂ (r :: bs) o) (hd : (x == ("__debug__" : PySem.Str)) = false := by decide) : ExecK D n env W ((.AugAssign (.Name x pos') op e pos :: r) :: bs) o := ExecK.st (ExecS.aug h1 h2 h3 h4 hd) h5
theorem ExecK.ifT {test : Expr} {body orelse r : List Stmt} {pos : Pos} {bs : List (List Stmt)} {o : Out} (h1 : TestR D n env W test true W₁) (h2 : ExecK D n env W₁ (body :: r :: bs) o) : ExecK D n env W ((.If test body orelse pos :: r) :: bs) o := by
  rcases h2 with ⟨W', h3, h4⟩ | ⟨h3, h4⟩
  · exact ExecK.st (ExecS.if h1 (fun _ => h3) fun e => nomatch e) h4
  · exact ExecK.stop (ExecS.if h1 (fun _ => h3) fun e => nomatch e) h4
theorem ExecK.ifF {test : Expr} {body orelse r : List Stmt} {pos : Pos} {bs : List (List Stmt)} {o : Out} (h1 : TestR D n env W test false W₁) (h2 : ExecK D n env W₁ (orelse :: r :: bs) o) : ExecK D n env W ((.If test body orelse pos :: r) :: bs) o := by
  rcases h2 with ⟨W', h3, h4⟩ | ⟨h3, h4⟩
  · exact ExecK.st (ExecS.if h1 (fun e => nomatch e) fun _ => h3) h4
  · exact ExecK.stop (ExecS.if h1 (fun e => nomatch e) fun _ => h3) h4
theorem ExecK.if {test : Expr} {body orelse r : List Stmt} {pos : Pos} {bs : List (List Stmt)} {b : Bool} {o : Out} (h1 : TestR D n env W test b W₁) (h2 : b = true → ExecK D n env W₁ (body :: r :: bs) o) (h3 : b = false → ExecK D n env W₁ (orelse :: r :: bs) o) : ExecK D n env W ((.If test body orelse pos :: r) :: bs) o := by
  cases b with
  | true => exact ExecK.ifT h1 (h2 rfl)
  | false => exact ExecK.ifF h1 (h3 rfl)
theorem ExecK.run {b : List Stmt} {o : Out} (h : ExecK D n env W [b] o) : ExecR D n env W b o := by
  rcases h with ⟨W', h3, h4⟩ | ⟨h3, h4⟩
  · cases h4; exact h3
  · exact h3
theorem TestR.or {x y : Expr} {pos : Pos} {b₁ b₂ : Bool} (h1 : TestR D n env W x b₁ W) (h2 : b₁ = false → TestR D n env W y b₂ W) : TestR D n env W (.BoolOp .Or [x, y] pos) (b₁ || b₂) W := by
  cases b₁ with
  | true => exact TestR.boolop (.orT h1)
  | false =>
    cases b₂ with
    | true => exact TestR.boolop (.orF h1 (.orT (h2 rfl)))
    | false => exact TestR.boolop (.orF h1 (.orF (h2 rfl) .orNil))
theorem TestR.and {x y : Expr} {pos : Pos} {b₁ b₂ : Bool} (h1 : TestR D n env W x b₁ W) (h2 : b₁ = true → TestR D n env W y b₂ W) : TestR D n env W (.BoolOp .And [x, y] pos) (b₁ && b₂) W := by
  cases b₁ with
  | false => exact TestR.boolop (.andF h1)
  | true =>
    cases b₂ with
    | false => exact TestR.boolop (.andT h1 (.andF (h2 rfl)))
    | true => exact TestR.boolop (.andT h1 (.andT (h2 rfl) .andNil))
theorem TestR.is {test : Expr} {b b' : Bool} (h : TestR D n env W test b W₁) (e : b = b') : TestR D n env W test b' W₁ := e ▸ h
theorem EvalR.is {e : Expr} {p q : PV} (h : EvalR D n env W e p W₁) (k : p = q) : EvalR D n env W e q W₁ := k ▸ h
end
end

section
open PySem PySem.W PyProof.Rows PySem.Calls
section
variable {D : Wd} {n : Nat} {env cenv : Env} {L C : Addr} {ns : Kinds} {cl : List (PySem.Str × Addr)} {W W' W₁ W₂ W₃ : Wld} {F G : Led} {s : Shared}
noncomputable def Sg.one (x : PySem.Str) (σ : Sg) : Prop := σ = [] ∨ ∃ q, σ = [(x, q)]
theorem StoreR.one {x : PySem.Str} {σ : Sg} {p : PV} (ok : EnvOk cenv C ns cl) (hk : ns.lookup x = some .local) (h : σ.one x) : StoreR D cenv ((C, .frame σ) :: W) x p ((C, .frame [(x, p)]) :: W) := by
  rcases h with rfl | ⟨q, rfl⟩
  · exact StoreR.loc ok hk .here .nil
  · exact StoreR.loc ok hk .here .here
theorem CompR.map1 {x : PySem.Str} {xp : Pos} {it elt : Expr} {ifs : List Expr} (outf : PV → Option PV) (ok : EnvOk cenv C ns cl) (hk : ns.lookup x = some .local) : ∀ (ps : List PV) (σ : Sg), σ.one x →
    (∀ p ∈ ps, outf p = Option.none → IfsR D n cenv ((C, .frame [(x, p)]) :: W) ifs false ((C, .frame [(x, p)]) :: W)) →
    (∀ p ∈ ps, ∀ q, outf p = some q → IfsR D n cenv ((C, .frame [(x, p)]) :: W) ifs true ((C, .frame [(x, p)]) :: W) ∧ EvalR D n cenv ((C, .frame [(x, p)]) :: W) elt q ((C, .frame [(x, p)]) :: W)) →
    ∃ σ', CompR D n cenv elt [⟨.Name x xp, it, ifs, 0⟩] ((C, .frame σ) :: W) ps (ps.filterMap outf) ((C, .frame σ') :: W)
  | [], σ, h, _, _ => ⟨σ, .nil⟩
  | p :: ps, σ, h, h0, h1 => by
    obtain ⟨σ', ih⟩ := CompR.map1 (it := it) (xp := xp) outf ok hk ps [(x, p)] (.inr ⟨p, rfl⟩) (fun p hp => h0 p (.tail _ hp)) (fun p hp => h1 p (.tail _ hp))
    refine ⟨σ', ?_⟩
    have ha : AssignR D n cenv ((C, .frame σ) :: W) (.Name x xp) p ((C, .frame [(x, p)]) :: W) := AssignR.name (StoreR.one ok hk h)
    cases hq : outf p with
    | none => rw [List.filterMap_cons_none hq]; exact .skip ha (h0 p (.head _) hq) ih
    | some q => rw [List.filterMap_cons_some hq]; exact .take ha (h1 p (.head _) q hq).1 (h1 p (.head _) q hq).2 ih
theorem CompR.mapA {x : PySem.Str} {xp : Pos} {it elt : Expr} (outf : PV → PV) (ok : EnvOk cenv C ns cl) (hk : ns.lookup x = some .local) (ps : List PV)
    (h1 : ∀ p ∈ ps, EvalR D n cenv ((C, .frame [(x, p)]) :: W) elt (outf p) ((C, .frame [(x, p)]) :: W)) :
    ∃ σ', CompR D n cenv elt [⟨.Name x xp, it, [], 0⟩] ((C, .frame []) :: W) ps (ps.map outf) ((C, .frame σ') :: W) := by
  obtain ⟨σ', h⟩ := CompR.map1 (D := D) (n := n) (W := W) (it := it) (xp := xp) (elt := elt) (ifs := []) (fun p => some (outf p)) ok hk ps [] (.inl rfl) (fun p hp e => nomatch e) (fun p hp q e => by cases e; exact ⟨.nil, h1 p hp⟩)
  rw [List.filterMap_eq_map'] at h
  exact ⟨σ', h⟩
noncomputable def Sg.two (x y : PySem.Str) (σ : Sg) : Prop := σ = [] ∨ (∃ q, σ = [(x, q)]) ∨ ∃ q r, σ = [(x, q), (y, r)]
theorem CompR.inner {x y : PySem.Str} {yp : Pos} {it elt : Expr} (p : PV) (outf : PV → PV) (ok : EnvOk cenv C ns cl) (hy : ns.lookup y = some .local) (hxy : (y == x) = false) : ∀ (qs : List PV) (σ : Sg), (σ = [(x, p)] ∨ ∃ r, σ = [(x, p), (y, r)]) →
    (∀ q ∈ qs, EvalR D n cenv ((C, .frame [(x, p), (y, q)]) :: W) elt (outf q) ((C, .frame [(x, p), (y, q)]) :: W)) →
    ∃ σ', (σ' = [(x, p)] ∨ ∃ r, σ' = [(x, p), (y, r)]) ∧ CompR D n cenv elt [⟨.Name y yp, it, [], 0⟩] ((C, .frame σ) :: W) qs (qs.map outf) ((C, .frame σ') :: W)
  | [], σ, h, _ => ⟨σ, h, .nil⟩
  | q :: qs, σ, h, h1 => by
    obtain ⟨σ', e, ih⟩ := CompR.inner (it := it) (yp := yp) p outf ok hy hxy qs [(x, p), (y, q)] (.inr ⟨q, rfl⟩) (fun q hq => h1 q (.tail _ hq))
    refine ⟨σ', e, ?_⟩
    have ha : AssignR D n cenv ((C, .frame σ) :: W) (.Name y yp) q ((C, .frame [(x, p), (y, q)]) :: W) := AssignR.name (by
      rcases h with rfl | ⟨r, rfl⟩
      · exact StoreR.loc ok hy .here (.there hxy .nil)
      · exact StoreR.loc ok hy .here (.there hxy .here))
    exact .take ha .nil (h1 q (.head _)) ih
theorem CompR.map2 {x y : PySem.Str} {xp yp : Pos} {it it' elt : Expr} (inn : PV → List PV) (src : PV → PV) (outf : PV → PV → PV) (ok : EnvOk cenv C ns cl) (hx : ns.lookup x = some .local) (hy : ns.lookup y = some .local) (hxy : (y == x) = false) (hs : ∀ z, foldedSetIterable it' cenv z = pure z) : ∀ (ps : List PV) (σ : Sg), σ.two x y →
    (∀ p ∈ ps, ∀ σ, (σ = [(x, p)] ∨ ∃ r, σ = [(x, p), (y, r)]) → EvalR D n cenv ((C, .frame σ) :: W) it' (src p) ((C, .frame σ) :: W) ∧ IterR D n (src p) (inn p)) →
    (∀ p ∈ ps, ∀ q ∈ inn p, EvalR D n cenv ((C, .frame [(x, p), (y, q)]) :: W) elt (outf p q) ((C, .frame [(x, p), (y, q)]) :: W)) →
    ∃ σ', CompR D n cenv elt [⟨.Name x xp, it, [], 0⟩, ⟨.Name y yp, it', [], 0⟩] ((C, .frame σ) :: W) ps (ps.flatMap fun p => (inn p).map (outf p)) ((C, .frame σ') :: W)
  | [], σ, h, _, _ => ⟨σ, .nil⟩
  | p :: ps, σ, h, h0, h1 => by
    have ha : ∃ σ₁, (σ₁ = [(x, p)] ∨ ∃ r, σ₁ = [(x, p), (y, r)]) ∧ AssignR D n cenv ((C, .frame σ) :: W) (.Name x xp) p ((C, .frame σ₁) :: W) := by
      rcases h with rfl | ⟨q, rfl⟩ | ⟨q, r, rfl⟩
      · exact ⟨_, .inl rfl, AssignR.name (StoreR.loc ok hx .here .nil)⟩
      · exact ⟨_, .inl rfl, AssignR.name (StoreR.loc ok hx .here .here)⟩
      · exact ⟨_, .inr ⟨r, rfl⟩, AssignR.name (StoreR.loc ok hx .here .here)⟩
    obtain ⟨σ₁, e₁, ha⟩ := ha
    obtain ⟨σ₂, e₂, hi⟩ := CompR.inner (it := it') (yp := yp) p (outf p) ok hy hxy (inn p) σ₁ e₁ (h1 p (.head _))
    have e₂' : Sg.two x y σ₂ := by
      rcases e₂ with rfl | ⟨r, rfl⟩
      · exact .inr (.inl ⟨p, rfl⟩)
      · exact .inr (.inr ⟨p, r, rfl⟩)
    obtain ⟨σ', ih⟩ := CompR.map2 (it := it) (xp := xp) (yp := yp) inn src outf ok hx hy hxy hs ps σ₂ e₂' (fun p hp => h0 p (.tail _ hp)) (fun p hp => h1 p (.tail _ hp))
    refine ⟨σ', ?_⟩
    rw [List.flatMap_cons]
    exact .deep ha .nil (h0 p (.head _) σ₁ e₁).1 (h0 p (.head _) σ₁ e₁).2 hs hi ih
section
variable {elt iter it' : Expr} {ifs : List Expr} {scope : Scope} {x y z : PySem.Str} {xp yp zp pos spos : Pos} {p : PV} {ps : List PV}
theorem EvalR.comp1 (outf : PV → Option PV) (ok : EnvOk env L ns cl) (h1 : EvalR D n env W iter p W₁) (h2 : IterR D n p ps) (hk : scope.kind = .function) (hcell : ∀ x ∈ scope.names, x.2 ≠ .cell) (hfree : freeIn cl scope.names) (hnames : ∀ x ∈ scope.names, x.2 = .local → scope.names.lookup x.1 = some .local)
    (hx : (relab ns scope.names).lookup x = some .local)
    (h3 : ∀ (C : Addr) (cenv : Env), EnvOk cenv C (relab ns scope.names) (closL cl scope.names []) → ∀ p ∈ ps, outf p = Option.none → IfsR D n cenv ((C, .frame [(x, p)]) :: W₁) ifs false ((C, .frame [(x, p)]) :: W₁))
    (h4 : ∀ (C : Addr) (cenv : Env), EnvOk cenv C (relab ns scope.names) (closL cl scope.names []) → ∀ p ∈ ps, ∀ q, outf p = some q → IfsR D n cenv ((C, .frame [(x, p)]) :: W₁) ifs true ((C, .frame [(x, p)]) :: W₁) ∧ EvalR D n cenv ((C, .frame [(x, p)]) :: W₁) elt q ((C, .frame [(x, p)]) :: W₁))
    (hz : (ps.filterMap outf).length ≤ 1000000) (hs : ∀ x, foldedSetIterable iter env x = pure x := by intro _; rfl) : EvalR D n env W (.ListComp elt [⟨.Name x xp, iter, ifs, 0⟩] scope pos) (.list (ps.filterMap outf)) W₁ :=
  EvalR.comp ok h1 h2 hk hcell hfree hnames (fun C cenv okc => CompR.map1 outf okc hx ps [] (.inl rfl) (h3 C cenv okc) (h4 C cenv okc)) hz hs
theorem EvalR.compA (outf : PV → PV) (ok : EnvOk env L ns cl) (h1 : EvalR D n env W iter p W₁) (h2 : IterR D n p ps) (hk : scope.kind = .function) (hcell : ∀ x ∈ scope.names, x.2 ≠ .cell) (hfree : freeIn cl scope.names) (hnames : ∀ x ∈ scope.names, x.2 = .local → scope.names.lookup x.1 = some .local)
    (hx : (relab ns scope.names).lookup x = some .local)
    (h4 : ∀ (C : Addr) (cenv : Env), EnvOk cenv C (relab ns scope.names) (closL cl scope.names []) → ∀ p ∈ ps, EvalR D n cenv ((C, .frame [(x, p)]) :: W₁) elt (outf p) ((C, .frame [(x, p)]) :: W₁))
    (hz : ps.length ≤ 1000000) (hs : ∀ x, foldedSetIterable iter env x = pure x := by intro _; rfl) : EvalR D n env W (.ListComp elt [⟨.Name x xp, iter, [], 0⟩] scope pos) (.list (ps.map outf)) W₁ :=
  EvalR.comp ok h1 h2 hk hcell hfree hnames (fun C cenv okc => CompR.mapA outf okc hx ps (h4 C cenv okc)) (by rw [List.length_map]; exact hz) hs
theorem ExecS.assignComp1 (outf : PV → Option PV) (ok : EnvOk env L ns cl) (h1 : EvalR D n env W iter p W₁) (h2 : IterR D n p ps) (hk : scope.kind = .function) (hcell : ∀ x ∈ scope.names, x.2 ≠ .cell) (hfree : freeIn cl scope.names) (hnames : ∀ x ∈ scope.names, x.2 = .local → scope.names.lookup x.1 = some .local)
    (hx : (relab ns scope.names).lookup x = some .local)
    (h3 : ∀ (C : Addr) (cenv : Env), EnvOk cenv C (relab ns scope.names) (closL cl scope.names []) → ∀ p ∈ ps, outf p = Option.none → IfsR D n cenv ((C, .frame [(x, p)]) :: W₁) ifs false ((C, .frame [(x, p)]) :: W₁))
    (h4 : ∀ (C : Addr) (cenv : Env), EnvOk cenv C (relab ns scope.names) (closL cl scope.names []) → ∀ p ∈ ps, ∀ q, outf p = some q → IfsR D n cenv ((C, .frame [(x, p)]) :: W₁) ifs true ((C, .frame [(x, p)]) :: W₁) ∧ EvalR D n cenv ((C, .frame [(x, p)]) :: W₁) elt q ((C, .frame [(x, p)]) :: W₁))
    (hz : (ps.filterMap outf).length ≤ 1000000) (h5 : StoreR D env W₁ z (.list (ps.filterMap outf)) W₃) (hy : ns.lookup z = some .local) (hline : (spos.line == pos.line) = true → (zp.line == pos.line) = true) (hl : (zp.line == pos.line) = true) (hny : (scope.names.any fun x => x.1 == z && (x.2 == .local || x.2 == .cell)) = false)
    (hs : ∀ x, foldedSetIterable iter env x = pure x := by intro _; rfl) : ExecS D n env W (.Assign [.Name z zp] (.ListComp elt [⟨.Name x xp, iter, ifs, 0⟩] scope pos) spos) (.next W₃) :=
  ExecS.assignComp ok h1 h2 hk hcell hfree hnames (fun C cenv okc => CompR.map1 outf okc hx ps [] (.inl rfl) (h3 C cenv okc) (h4 C cenv okc)) hz h5 hy hline hl hny hs
theorem ExecS.assignCompA (outf : PV → PV) (ok : EnvOk env L ns cl) (h1 : EvalR D n env W iter p W₁) (h2 : IterR D n p ps) (hk : scope.kind = .function) (hcell : ∀ x ∈ scope.names, x.2 ≠ .cell) (hfree : freeIn cl scope.names) (hnames : ∀ x ∈ scope.names, x.2 = .local → scope.names.lookup x.1 = some .local)
    (hx : (relab ns scope.names).lookup x = some .local)
    (h4 : ∀ (C : Addr) (cenv : Env), EnvOk cenv C (relab ns scope.names) (closL cl scope.names []) → ∀ p ∈ ps, EvalR D n cenv ((C, .frame [(x, p)]) :: W₁) elt (outf p) ((C, .frame [(x, p)]) :: W₁))
    (hz : ps.length ≤ 1000000) (h5 : StoreR D env W₁ z (.list (ps.map outf)) W₃) (hy : ns.lookup z = some .local) (hline : (spos.line == pos.line) = true → (zp.line == pos.line) = true) (hl : (zp.line == pos.line) = true) (hny : (scope.names.any fun x => x.1 == z && (x.2 == .local || x.2 == .cell)) = false)
    (hs : ∀ x, foldedSetIterable iter env x = pure x := by intro _; rfl) : ExecS D n env W (.Assign [.Name z zp] (.ListComp elt [⟨.Name x xp, iter, [], 0⟩] scope pos) spos) (.next W₃) :=
  ExecS.assignComp ok h1 h2 hk hcell hfree hnames (fun C cenv okc => CompR.mapA outf okc hx ps (h4 C cenv okc)) (by rw [List.length_map]; exact hz) h5 hy hline hl hny hs
theorem EvalR.comp2 (inn : PV → List PV) (src : PV → PV) (outf : PV → PV → PV) (ok : EnvOk env L ns cl) (h1 : EvalR D n env W iter p W₁) (h2 : IterR D n p ps) (hk : scope.kind = .function) (hcell : ∀ x ∈ scope.names, x.2 ≠ .cell) (hfree : freeIn cl scope.names) (hnames : ∀ x ∈ scope.names, x.2 = .local → scope.names.lookup x.1 = some .local)
    (hx : (relab ns scope.names).lookup x = some .local) (hy : (relab ns scope.names).lookup y = some .local) (hxy : (y == x) = false) (hs' : ∀ cenv z, foldedSetIterable it' cenv z = pure z)
    (h3 : ∀ (C : Addr) (cenv : Env), EnvOk cenv C (relab ns scope.names) (closL cl scope.names []) → ∀ p ∈ ps, ∀ σ : Sg, (σ = [(x, p)] ∨ ∃ r, σ = [(x, p), (y, r)]) → EvalR D n cenv ((C, .frame σ) :: W₁) it' (src p) ((C, .frame σ) :: W₁) ∧ IterR D n (src p) (inn p))
    (h4 : ∀ (C : Addr) (cenv : Env), EnvOk cenv C (relab ns scope.names) (closL cl scope.names []) → ∀ p ∈ ps, ∀ q ∈ inn p, EvalR D n cenv ((C, .frame [(x, p), (y, q)]) :: W₁) elt (outf p q) ((C, .frame [(x, p), (y, q)]) :: W₁))
    (hz : (ps.flatMap fun p => (inn p).map (outf p)).length ≤ 1000000) (hs : ∀ x, foldedSetIterable iter env x = pure x := by intro _; rfl) :
    EvalR D n env W (.ListComp elt [⟨.Name x xp, iter, [], 0⟩, ⟨.Name y yp, it', [], 0⟩] scope pos) (.list (ps.flatMap fun p => (inn p).map (outf p))) W₁ :=
  EvalR.comp ok h1 h2 hk hcell hfree hnames (fun C cenv okc => CompR.map2 inn src outf okc hx hy hxy (hs' cenv) ps [] (.inl rfl) (h3 C cenv okc) (h4 C cenv okc)) hz hs
end
end
end

section
open PySem PySem.W PyProof.Rows PySem.Calls
section
variable {D : Wd} {n : Nat} {env : Env} {L : Addr} {ns : Kinds} {cl : List (PySem.Str × Addr)} {W W' W₁ W₂ W₃ : Wld} {F G : Led} {s : Shared}
theorem ExecK.retS {e : Expr} {p : PV} {pos : Pos} {r : List Stmt} {bs : List (List Stmt)} (h : EvalR D n env W e p W₁) (hs : W'.Sublist W₁) : ExecK D n env W ((.Return (some e) pos :: r) :: bs) (.ret p W') :=
  ExecK.stop (ExecS.ret fun A F G s Q E rm c k => h A F G s Q E rm c fun G' v s' l c' r => k G' v s' l (c'.sub hs) r)
theorem ExecS.try {body : List Stmt} {h₀ : ExceptHandler} {hs : List ExceptHandler} {pos : Pos} {o : Out} (h : ExecR D n env W body o) : ExecS D n env W (.Try body (h₀ :: hs) [] [] pos) o := by
  intro A F G s Q E rm c k
  refine wpAny_Try_except (h A F G s _ _ rm c ?_)
  cases o with
  | next W' => exact fun G' s' l c' => wpAny_execs_nil (k G' s' l c')
  | brk W' => exact k
  | cont W' => exact k
  | ret p W' => exact k
theorem ExecK.try {body : List Stmt} {h₀ : ExceptHandler} {hs : List ExceptHandler} {pos : Pos} {r : List Stmt} {bs : List (List Stmt)} {o : Out} (h : ExecK D n env W (body :: r :: bs) o) : ExecK D n env W ((.Try body (h₀ :: hs) [] [] pos :: r) :: bs) o := by
  rcases h with ⟨W', h3, h4⟩ | ⟨h3, h4⟩
  · exact ExecK.st (ExecS.try h3) h4
  · exact ExecK.stop (ExecS.try h3) h4
theorem ExecK.for {target iter : Expr} {body orelse : List Stmt} {pos : Pos} {p : PV} {ps : List PV} {r : List Stmt} {bs : List (List Stmt)} {o : Out} (h1 : EvalR D n env W iter p W₁) (h2 : IterR D n p ps) (h3 : ForR D n env target body orelse W₁ ps (.next W₂)) (h4 : ExecK D n env W₂ (r :: bs) o)
    (hs : ∀ x, foldedSetIterable iter env x = pure x := by intro _; rfl) : ExecK D n env W ((.For target iter body orelse pos :: r) :: bs) o := ExecK.st (ExecS.for h1 h2 h3 hs) h4
theorem ExecK.forS {target iter : Expr} {body orelse : List Stmt} {pos : Pos} {p : PV} {ps : List PV} {r : List Stmt} {bs : List (List Stmt)} {o : Out} (h1 : EvalR D n env W iter p W₁) (h2 : IterR D n p ps) (h3 : ForR D n env target body orelse W₁ ps o) (ho : o.stops = true)
    (hs : ∀ x, foldedSetIterable iter env x = pure x := by intro _; rfl) : ExecK D n env W ((.For target iter body orelse pos :: r) :: bs) o := ExecK.stop (ExecS.for h1 h2 h3 hs) ho
theorem ExecK.while {test : Expr} {body orelse : List Stmt} {pos : Pos} {m : Nat} {r : List Stmt} {bs : List (List Stmt)} {o : Out} (h3 : WhileR D n env test body orelse m W (.next W₂)) (h4 : ExecK D n env W₂ (r :: bs) o) : ExecK D n env W ((.While test body orelse pos :: r) :: bs) o := ExecK.st (ExecS.while h3) h4
theorem ExecK.whileS {test : Expr} {body orelse : List Stmt} {pos : Pos} {m : Nat} {r : List Stmt} {bs : List (List Stmt)} {o : Out} (h3 : WhileR D n env test body orelse m W o) (ho : o.stops = true) : ExecK D n env W ((.While test body orelse pos :: r) :: bs) o := ExecK.stop (ExecS.while h3) ho
theorem Core.news (c : Core D F G W s) {h' : Heap} {t : Nat} (N : Wld) (k : ∀ a o, s.heap.get? a = some o → h'.get? a = some o) (hx : ∀ p ∈ N, s.heap.objs.size ≤ p.1) (nd : (N.map (·.1)).Nodup) (hm : ∀ p ∈ N, p.2.Is G h' p.1) : Core D F G (N ++ W) { s with heap := h', toks := t } := by
  have g := c.grow (t := t) k
  refine ⟨g.base, g.inn, g.frn, g.apart, ?_, ?_, ?_, ?_, g.gens, g.os⟩
  · intro p hp o; rcases List.mem_append.mp hp with hp | hp
    · exact c.fresh_G (hx p hp) o
    · exact c.wG p hp o
  · intro p hp o; rcases List.mem_append.mp hp with hp | hp
    · exact c.fresh_F (hx p hp) o
    · exact c.wF p hp o
  · rw [List.map_append, List.nodup_append]
    refine ⟨nd, c.nd, fun a ha b hb e => ?_⟩
    obtain ⟨p, hp, rfl⟩ := List.mem_map.mp ha
    obtain ⟨q, hq, rfl⟩ := List.mem_map.mp hb
    exact c.fresh_W (hx p hp) q hq e.symm
  · intro p hp; rcases List.mem_append.mp hp with hp | hp
    · exact hm p hp
    · exact g.wok p hp
theorem bindC_local {kindOf : PySem.Str → Option NameKind} : ∀ (bs : List (PySem.Str × Value)) (m : PySem.Str → Option Value), (∀ x ∈ bs, kindOf x.1 = some .local) → bindC kindOf bs m = m
  | [], m, _ => rfl
  | (x, v) :: r, m, h => by
    unfold bindC
    rw [if_pos (h _ (.head _))]
    exact bindC_local r m fun x hx => h x (.tail _ hx)
theorem bindL_local {kindOf : PySem.Str → Option NameKind} : ∀ (bs : List (PySem.Str × Value)) (m : PySem.Str → Option Value), (∀ x ∈ bs, kindOf x.1 = some .local) → ∀ y, bindL kindOf bs m y = match bs.reverse.lookup y with | some v => some v | none => m y
  | [], m, _, y => rfl
  | (x, v) :: r, m, h, y => by
    unfold bindL
    rw [if_pos (h _ (.head _)), bindL_local r _ (fun x hx => h x (.tail _ hx)) y, List.reverse_cons, List.lookup_append]
    cases hr : r.reverse.lookup y with
    | some u => rfl
    | none =>
      by_cases e : y = x
      · subst e; simp [List.lookup]
      · have : (y == x) = false := by simpa using e
        simp [List.lookup, this, e]
theorem CallR.defC {f : Addr} {fd : FuncData} {body : List Stmt} {as : List PV} {p : PV} (o : D.Ok) (fa : FnAt D f fd body) (xs : List PySem.Str) (hlen : xs.length = as.length) (hnd : xs.Nodup)
    (hbind : ∀ vs : List Value, vs.length = as.length → bindArgs fd ⟨vs, []⟩ = pure (xs.zip vs)) (hloc : ∀ x ∈ xs, fd.scope.names.lookup x = some .local)
    (hlk : ∀ L : Addr, ∀ p ∈ cellsFrom (L + 1) fd.scope.names [], (cellsFrom (L + 1) fd.scope.names []).lookup p.1 = some p.2)
    (h : ∀ (L : Addr) (env : Env), EnvOk env L fd.scope.names (cellsFrom (L + 1) fd.scope.names []) → ExecR D n env (((L, .frame (xs.zip as)) :: (cellsFrom (L + 1) fd.scope.names []).map fun p => (p.2, MO.cell none)) ++ W) body (.ret p W')) : CallR D (n + 1) W (.ref f) as [] p W' := by
  intro A F G s vs ks Q E rm c ra hk rk k
  obtain rfl : ks = [] := by simpa using hk
  obtain ⟨ob, ho, hd⟩ := fa.ob
  have hl : ∀ x ∈ xs.zip vs, fd.scope.names.lookup x.1 = some .local := fun x hx => hloc _ (List.of_mem_zip (a := x.1) (b := x.2) hx).1
  refine wpAny_call (codeAny_call_cells (binds := xs.zip vs) rm.d (c.keeps _ _ ho) hd (o.nolimit.keeps c.keeps) (fa.code.keeps c.keeps) fa.body (hbind vs ra.length) fa.clos (fun x hx => .inl (hl x hx)) (fun s₁ hi => ?_) fa.co fa.gen fa.kind)
  have eo : EnvOk (callEnvC fd s.heap.objs.size f) s.heap.objs.size fd.scope.names (cellsFrom (s.heap.objs.size + 1) fd.scope.names []) := ⟨fa.kind, fun _ => rfl, rfl, fa.glob, fa.blt, rfl⟩
  have hx := h s.heap.objs.size _ eo
  have ek : ∀ x ∈ xs.zip vs, (callEnvC fd s.heap.objs.size f).kindOf x.1 = some .local := hl
  rw [bindC_local _ _ ek] at hi
  obtain ⟨h', tk, es⟩ := hi.toInCall.same
  subst es
  have hkp := hi.toInCall.keep
  have c₁ : Core D F G (((s.heap.objs.size, .frame (xs.zip as)) :: (cellsFrom (s.heap.objs.size + 1) fd.scope.names []).map fun p => (p.2, MO.cell none)) ++ W) { s with heap := h', toks := tk } := by
    refine c.news _ hkp ?_ ?_ ?_
    · intro p hp
      rcases List.mem_cons.mp hp with rfl | hp
      · exact Nat.le_refl _
      · obtain ⟨q, hq, rfl⟩ := List.mem_map.mp hp
        exact Nat.le_of_lt (hi.above q.1 q.2 hq)
    · rw [List.map_cons, List.nodup_cons]
      constructor
      · intro hm
        obtain ⟨p, hp, e⟩ := List.mem_map.mp hm
        obtain ⟨q, hq, rfl⟩ := List.mem_map.mp hp
        have h1 : s.heap.objs.size < q.2 := hi.above q.1 q.2 hq
        have h2 : q.2 = s.heap.objs.size := e
        rw [h2] at h1
        exact Nat.lt_irrefl _ h1
      · rw [List.map_map]
        exact List.pairwise_map.mpr hi.apart
    · intro p hp
      rcases List.mem_cons.mp hp with rfl | hp
      · refine ⟨_, hi.toInCall.ns, fun x q e => ?_⟩
        obtain ⟨v, e1, e2⟩ := zip_lookup xs vs as ra hnd x q e
        refine ⟨v, ?_, e2⟩
        rw [bindL_local _ _ ek, e1]
      · obtain ⟨q, hq, rfl⟩ := List.mem_map.mp hp
        exact ⟨none, hi.cell q.1 q.2 (hlk _ q hq), fun q e => nomatch e⟩
  refine wpAny_mono (hx _ F G _ (fun fl s' => ∃ v G', fl = .ret v ∧ G.le G' ∧ Core D F G' W' s' ∧ Rep G' v p) (fun _ _ => False) rm.deeper c₁ ?_) (fun fl s' hq => ?_) fun _ _ e => e.elim
  · intro G' v s' l c' rv
    exact ⟨v, G', rfl, l, c', rv⟩
  · obtain ⟨v, G', rfl, l, c', rv⟩ := hq
    exact k G' v s' l c' rv
theorem CallR.defV {f : Addr} {fd : FuncData} {body : List Stmt} {a₁ : PV} {as : List PV} {p : PV} {x₁ x₂ : PySem.Str} (o : D.Ok) (fa : FnAt D f fd body) (hne : x₁ ≠ x₂) (has : as.length ≤ 1000000)
    (hbind : ∀ v (vs : List Value), vs.length = as.length → bindArgs fd ⟨v :: vs, []⟩ = (newTuple vs >>= fun t => pure [(x₁, v), (x₂, t)])) (hcell : ∀ x ∈ fd.scope.names, x.2 ≠ .cell) (hloc : ∀ x ∈ [x₁, x₂], fd.scope.names.lookup x = some .local)
    (h : ∀ (L : Addr) (env : Env), EnvOk env L fd.scope.names [] → ExecR D n env ((L, .frame [(x₁, a₁), (x₂, .tup as)]) :: W) body (.ret p W')) : CallR D (n + 1) W (.ref f) (a₁ :: as) [] p W' := by
  intro A F G s vs ks Q E rm c ra hk rk k
  obtain rfl : ks = [] := by simpa using hk
  obtain ⟨ob, ho, hd⟩ := fa.ob
  obtain ⟨v, vs, rfl, r1, rs⟩ := ra.cons_v
  refine wpAny_call (codeAny_call_function rm.d (c.keeps _ _ ho) hd fa.co fa.gen fa.body (fa.code.keeps c.keeps) ?_)
  rw [hbind _ _ rs.length]
  have c₂ := c.made (ob := { cls := .type "tuple", data := .seq vs.toArray }) rfl
  refine wpAny_bind (wpAny_newTuple (wpAny_pure ?_) (by rw [sizeLine_eq, rs.length]; lia))
  have hl : ∀ x ∈ [(x₁, v), (x₂, Value.ref s.heap.objs.size)], fd.scope.names.lookup x.1 = some .local := by
    intro x hx
    rcases List.mem_cons.mp hx with rfl | hx
    · exact hloc _ (.head _)
    · rcases List.mem_cons.mp hx with rfl | hx
      · exact hloc _ (.tail _ (.head _))
      · cases hx
  refine wpAny_newFunctionEnv hcell hl (fun h₀ hns hsb => ⟨(o.nolimit.keeps c₂.keeps).fresh _ hsb, codeAny_func ?_⟩) fa.kind
  have hkp : ∀ a o, (s.heap.push { cls := .type "tuple", data := .seq vs.toArray }).get? a = some o → h₀.get? a = some o := fun b o e => hsb.extBut b o (Nat.ne_of_lt (Heap.lt_size e)) (Heap.get?_push_of_some _ e)
  have ra' : RepAll (G.add s.heap.objs.size { cls := .type "tuple", data := .seq vs.toArray }) [v, .ref s.heap.objs.size] [a₁, .tup as] :=
    .cons (r1.mono Led.le_add) (.cons (.tup (.inr ⟨rfl, rfl⟩) rfl rfl (rs.mono Led.le_add)) .nil)
  have c₁ : Core D F _ ((_, .frame [(x₁, a₁), (x₂, .tup as)]) :: W) { s with heap := h₀, toks := s.toks + [(x₁, v), (x₂, Value.ref s.heap.objs.size)].length } := c₂.new (Nat.le_refl _) hkp ⟨_, hns, zip_lookup [x₁, x₂] _ _ ra' (by simpa using hne)⟩
  refine wpAny_mono (h _ (callEnv fd _ f) ⟨fa.kind, fun _ => rfl, rfl, fa.glob, fa.blt, fa.clos⟩ _ F _ _ (fun fl s' => ∃ v G', fl = .ret v ∧ G.le G' ∧ Core D F G' W' s' ∧ Rep G' v p) (fun _ _ => False) rm.deeper c₁ ?_) (fun fl s' hq => ?_) fun _ _ e => e.elim
  · intro G' v s' l c' rv
    exact ⟨v, G', rfl, Led.le_add.trans l, c', rv⟩
  · obtain ⟨v, G', rfl, l, c', rv⟩ := hq
    exact k G' v s' l c' rv
end
end

section
open PySem PySem.W PyProof.Rows PySem.Calls
noncomputable abbrev KK (D : Wd) : Frag := Mine.kk.heap_1 D.w.params
structure Wd.Fit (D : Wd) : Prop extends D.Ok where
  kin : (KK D).In D.B
section
variable {D : Wd}
theorem Wd.Fit.glob {x : PySem.Str} {v : Value} (f : D.Fit) (e : nsIn (KK D) mainGlobals x = some (some v)) : D.mg x = some v := mg_of f.kin f.g e
theorem Wd.Fit.none {x : PySem.Str} (f : D.Fit) (e : nsIn (KK D) mainGlobals x = some none) : D.mg x = none := mg_none_of f.kin f.g e
theorem Wd.Fit.fn {a : Addr} {c : Value} {d : Option Addr} {fd : FuncData} {sl : Array (Option Value)} {body : List Stmt} (f : D.Fit) (e : (KK D).lookup a = some ⟨c, d, .func fd, sl⟩) (hb : fd.body = .stmts body) (hc : codeIn (KK D) fd.code fd.qualname = true)
    (co : fd.scope.isCoroutine = false := by rfl) (gen : fd.scope.isGenerator = false := by rfl) (kind : fd.scope.kind = .function := by rfl) (glob : fd.globals = mainGlobals := by rfl) (blt : fd.builtins = builtinsNs := by rfl) (clos : fd.closure = [] := by rfl) : FnAt D a fd body :=
  ⟨⟨_, f.kin _ _ e, rfl⟩, hb, codeRec_of f.kin hc, co, gen, kind, glob, blt, clos⟩
theorem Wd.Fit.keep {a : Addr} {c : Value} {d : Option Addr} {fd : FuncData} {sl : Array (Option Value)} (f : D.Fit) (e : (KK D).lookup a = some ⟨c, d, .func fd, sl⟩) : Keeper D (.ref a) := .inr ⟨a, _, fd, rfl, f.kin _ _ e, rfl⟩
end
noncomputable def fdOk (fd : FuncData) (xs : List PySem.Str) : Bool := !fd.scope.isCoroutine && !fd.scope.isGenerator && decide (fd.scope.kind = .function) && decide (fd.globals = mainGlobals) && decide (fd.builtins = builtinsNs) && fd.closure.isEmpty &&
  fd.scope.names.all (fun x => decide (x.2 ≠ .cell)) && xs.all (fun x => decide (fd.scope.names.lookup x = some .local)) && decide xs.Nodup
section
variable {D : Wd} {n : Nat} {W W' : Wld}
theorem fdOk_facts {fd : FuncData} {xs : List PySem.Str} (h : fdOk fd xs = true) : fd.scope.isCoroutine = false ∧ fd.scope.isGenerator = false ∧ fd.scope.kind = .function ∧ fd.globals = mainGlobals ∧ fd.builtins = builtinsNs ∧ fd.closure = [] ∧
    (∀ x ∈ fd.scope.names, x.2 ≠ .cell) ∧ (∀ x ∈ xs, fd.scope.names.lookup x = some .local) ∧ xs.Nodup := by
  unfold fdOk at h
  simp only [Bool.and_eq_true, Bool.not_eq_true', decide_eq_true_eq, List.all_eq_true, List.isEmpty_iff] at h
  obtain ⟨⟨⟨⟨⟨⟨⟨⟨a, b⟩, c⟩, d⟩, e⟩, g⟩, i⟩, j⟩, k⟩ := h
  exact ⟨a, b, c, d, e, g, i, j, k⟩
theorem CallR.k (f : D.Fit) (a : Addr) {c : Value} {d : Option Addr} {fd : FuncData} {sl : Array (Option Value)} {body : List Stmt} {as : List PV} {p : PV} (xs : List PySem.Str)
    (e : (KK D).lookup a = some ⟨c, d, .func fd, sl⟩) (hb : fd.body = .stmts body) (hc : codeIn (KK D) fd.code fd.qualname = true) (hok : fdOk fd xs = true) (hlen : xs.length = as.length)
    (hbind : ∀ vs : List Value, vs.length = as.length → bindArgs fd ⟨vs, []⟩ = pure (xs.zip vs))
    (h : ∀ (L : Addr) (env : Env), EnvOk env L fd.scope.names [] → ∃ mo, ExecR D n env ((L, .frame (xs.zip as)) :: W) body (.ret p ((L, mo) :: W'))) : CallR D (n + 1) W (.ref a) as [] p W' := by
  obtain ⟨a1, a2, a3, a4, a5, a6, a7, a8, a9⟩ := fdOk_facts hok
  exact CallR.defn f.toOk (f.fn e hb hc a1 a2 a3 a4 a5 a6) xs hlen a9 hbind a7 a8 h
theorem CallR.kf (f : D.Fit) (a : Addr) {c : Value} {d : Option Addr} {fd : FuncData} {sl : Array (Option Value)} {body : List Stmt} {as : List PV} {p : PV} (xs : List PySem.Str)
    (e : (KK D).lookup a = some ⟨c, d, .func fd, sl⟩) (hb : fd.body = .stmts body) (hc : codeIn (KK D) fd.code fd.qualname = true) (hok : fdOk fd xs = true) (hlen : xs.length = as.length)
    (hbind : ∀ vs : List Value, vs.length = as.length → bindArgs fd ⟨vs, []⟩ = pure (xs.zip vs))
    (h : ∀ (L : Addr) (env : Env), EnvOk env L fd.scope.names [] → ExecR D n env ((L, .frame (xs.zip as)) :: W) body (.ret p ((L, .frame []) :: W'))) : CallR D (n + 1) W (.ref a) as [] p W' :=
  CallR.k f a xs e hb hc hok hlen hbind fun L env ok => ⟨_, h L env ok⟩
theorem CallR.kS (f : D.Fit) (a : Addr) {c : Value} {d : Option Addr} {fd : FuncData} {sl : Array (Option Value)} {body : List Stmt} {as : List PV} {p : PV} (xs : List PySem.Str)
    (e : (KK D).lookup a = some ⟨c, d, .func fd, sl⟩) (hb : fd.body = .stmts body) (hc : codeIn (KK D) fd.code fd.qualname = true) (hok : fdOk fd xs = true) (hlen : xs.length = as.length)
    (hbind : ∀ vs : List Value, vs.length = as.length → bindArgs fd ⟨vs, []⟩ = pure (xs.zip vs))
    (h : ∀ (L : Addr) (env : Env), EnvOk env L fd.scope.names [] → ExecR D n env ((L, .frame (xs.zip as)) :: W) body (.ret p W')) : CallR D (n + 1) W (.ref a) as [] p W' := by
  obtain ⟨a1, a2, a3, a4, a5, a6, a7, a8, a9⟩ := fdOk_facts hok
  intro A F G s vs ks Q E rm c ra hk rk k
  obtain rfl : ks = [] := by simpa using hk
  have fa := f.fn e hb hc a1 a2 a3 a4 a5 a6
  obtain ⟨ob, ho, hd⟩ := fa.ob
  refine wpAny_call (codeAny_call_def (binds := xs.zip vs) rm.d (c.keeps _ _ ho) hd (f.toOk.nolimit.keeps c.keeps) (fa.code.keeps c.keeps) fa.body (BindsTo.of_eq (hbind vs ra.length)) a7 ?_ (fun h₁ hns hkp => ?_) fa.co fa.gen fa.kind)
  · intro x hx
    exact a8 _ (List.of_mem_zip (a := x.1) (b := x.2) hx).1
  · have eo : EnvOk (callEnv fd s.heap.objs.size a) s.heap.objs.size fd.scope.names [] := ⟨fa.kind, fun _ => rfl, rfl, fa.glob, fa.blt, fa.clos⟩
    have hx := h s.heap.objs.size _ eo
    have c₁ : Core D F G ((s.heap.objs.size, .frame (xs.zip as)) :: W) { s with heap := h₁, toks := s.toks + (xs.zip vs).length } := c.new (Nat.le_refl _) hkp ⟨_, hns, zip_lookup xs vs as ra a9⟩
    refine wpAny_mono (hx _ F G _ (fun fl s' => ∃ v G', fl = .ret v ∧ G.le G' ∧ Core D F G' W' s' ∧ Rep G' v p) (fun _ _ => False) rm.deeper c₁ ?_) (fun fl s' hq => ?_) fun _ _ e => e.elim
    · intro G' v s' l c' rv
      exact ⟨v, G', rfl, l, c', rv⟩
    · obtain ⟨v, G', rfl, l, c', rv⟩ := hq
      exact k G' v s' l c' rv
theorem CallR.kV (f : D.Fit) (a : Addr) {c : Value} {d : Option Addr} {fd : FuncData} {sl : Array (Option Value)} {body : List Stmt} {a₁ : PV} {as : List PV} {p : PV} (x y : PySem.Str)
    (e : (KK D).lookup a = some ⟨c, d, .func fd, sl⟩) (hb : fd.body = .stmts body) (hc : codeIn (KK D) fd.code fd.qualname = true) (hok : fdOk fd [x, y] = true) (has : as.length ≤ 1000000)
    (hbind : ∀ v (vs : List Value), vs.length = as.length → bindArgs fd ⟨v :: vs, []⟩ = (newTuple vs >>= fun t => pure [(x, v), (y, t)]))
    (h : ∀ (L : Addr) (env : Env), EnvOk env L fd.scope.names [] → ExecR D n env ((L, .frame [(x, a₁), (y, .tup as)]) :: W) body (.ret p W')) : CallR D (n + 1) W (.ref a) (a₁ :: as) [] p W' := by
  obtain ⟨a1, a2, a3, a4, a5, a6, a7, a8, a9⟩ := fdOk_facts hok
  exact CallR.defV f.toOk (f.fn e hb hc a1 a2 a3 a4 a5 a6) (by simpa using a9) has hbind a7 a8 h
noncomputable def fdOkC (fd : FuncData) (xs : List PySem.Str) : Bool := !fd.scope.isCoroutine && !fd.scope.isGenerator && decide (fd.scope.kind = .function) && decide (fd.globals = mainGlobals) && decide (fd.builtins = builtinsNs) && fd.closure.isEmpty &&
  xs.all (fun x => decide (fd.scope.names.lookup x = some .local)) && decide xs.Nodup
theorem CallR.kC (f : D.Fit) (a : Addr) {c : Value} {d : Option Addr} {fd : FuncData} {sl : Array (Option Value)} {body : List Stmt} {as : List PV} {p : PV} (xs : List PySem.Str) (cl : Addr → List (PySem.Str × Addr))
    (e : (KK D).lookup a = some ⟨c, d, .func fd, sl⟩) (hb : fd.body = .stmts body) (hc : codeIn (KK D) fd.code fd.qualname = true) (hok : fdOkC fd xs = true) (hlen : xs.length = as.length)
    (hbind : ∀ vs : List Value, vs.length = as.length → bindArgs fd ⟨vs, []⟩ = pure (xs.zip vs)) (hcl : ∀ L : Addr, cellsFrom (L + 1) fd.scope.names [] = cl L)
    (hlk : ∀ L : Addr, ∀ p ∈ cl L, (cl L).lookup p.1 = some p.2)
    (h : ∀ (L : Addr) (env : Env), EnvOk env L fd.scope.names (cl L) → ExecR D n env (((L, .frame (xs.zip as)) :: (cl L).map fun p => (p.2, MO.cell none)) ++ W) body (.ret p W')) : CallR D (n + 1) W (.ref a) as [] p W' := by
  unfold fdOkC at hok
  simp only [Bool.and_eq_true, Bool.not_eq_true', decide_eq_true_eq, List.all_eq_true, List.isEmpty_iff] at hok
  obtain ⟨⟨⟨⟨⟨⟨⟨a1, a2⟩, a3⟩, a4⟩, a5⟩, a6⟩, a8⟩, a9⟩ := hok
  exact CallR.defC f.toOk (f.fn e hb hc a1 a2 a3 a4 a5 a6) xs hlen a9 hbind a8 (fun L => by rw [hcl]; exact hlk L) (fun L env ok => by rw [hcl] at ok ⊢; exact h L env ok)
theorem list_one {P : List Value → Prop} (h : ∀ v, P [v]) : ∀ vs : List Value, vs.length = 1 → P vs := fun vs e => by
  obtain ⟨v, rfl⟩ := List.length_eq_one_iff.mp e
  exact h v
theorem list_succ {P : List Value → Prop} {n : Nat} (h : ∀ (v : Value) (vs : List Value), vs.length = n → P (v :: vs)) (vs : List Value) (e : vs.length = n + 1) : P vs := by
  cases vs with
  | nil => exact absurd e (Nat.succ_ne_zero n).symm
  | cons v vs => exact h v vs (Nat.succ.inj e)
theorem kw_one {P : List (PySem.Str × Value) → Prop} {x : PySem.Str} (h : ∀ u, P [(x, u)]) (ks : List (PySem.Str × Value)) (e : ks.map (·.1) = [x]) : P ks := by
  cases ks with
  | nil => cases e
  | cons p r =>
    obtain ⟨rfl, q⟩ := List.cons.inj e
    obtain rfl := List.map_eq_nil_iff.mp q
    exact h p.2
theorem bind1 {fd : FuncData} {x : PySem.Str} (h : ∀ v, bindArgs fd ⟨[v], []⟩ = pure [(x, v)]) (vs : List Value) (e : vs.length = 1) : bindArgs fd ⟨vs, []⟩ = pure ([x].zip vs) :=
  list_one (P := fun vs => bindArgs fd ⟨vs, []⟩ = pure ([x].zip vs)) h vs e
theorem bind2 {fd : FuncData} {x y : PySem.Str} (h : ∀ v u, bindArgs fd ⟨[v, u], []⟩ = pure [(x, v), (y, u)]) (vs : List Value) (e : vs.length = 2) : bindArgs fd ⟨vs, []⟩ = pure ([x, y].zip vs) :=
  list_succ (P := fun vs => bindArgs fd ⟨vs, []⟩ = pure ([x, y].zip vs)) (fun v => list_one (P := fun vs => bindArgs fd ⟨v :: vs, []⟩ = pure ([x, y].zip (v :: vs))) (h v)) vs e
theorem bind3 {fd : FuncData} {x y z : PySem.Str} (h : ∀ v u t, bindArgs fd ⟨[v, u, t], []⟩ = pure [(x, v), (y, u), (z, t)]) (vs : List Value) (e : vs.length = 3) : bindArgs fd ⟨vs, []⟩ = pure ([x, y, z].zip vs) :=
  list_succ (P := fun vs => bindArgs fd ⟨vs, []⟩ = pure ([x, y, z].zip vs)) (fun v => list_succ (P := fun vs => bindArgs fd ⟨v :: vs, []⟩ = pure ([x, y, z].zip (v :: vs))) fun u => list_one (P := fun vs => bindArgs fd ⟨v :: u :: vs, []⟩ = pure ([x, y, z].zip (v :: u :: vs))) (h v u)) vs e
end
end

section
open PySem PySem.W PyProof.Rows PySem.Calls
section
variable {D : Wd} {n : Nat} {env : Env} {L : Addr} {ns : Kinds} {cl : List (PySem.Str × Addr)} {W W' W₁ W₂ W₃ : Wld} {F G : Led} {s : Shared} {t : Expr} {body orelse : List Stmt} {o : Out}
theorem ForR.ix (Wf : Nat → Wld) : ∀ (ps : List PV) (i : Nat), (∀ j q, ps[j]? = some q → ∃ W₁, AssignR D n env (Wf (i + j)) t q W₁ ∧ ExecR D n env W₁ body (.next (Wf (i + j + 1)))) → ExecR D n env (Wf (i + ps.length)) orelse o → ForR D n env t body orelse (Wf i) ps o
  | [], i, h, hd => .done hd
  | p :: ps, i, h, hd => by
    obtain ⟨W₁, a, b⟩ := h 0 p rfl
    refine .next a b (ForR.ix Wf ps (i + 1) (fun j q hq => ?_) ?_)
    · have := h (j + 1) q (by simpa using hq)
      rw [show i + 1 + j = i + (j + 1) by lia]
      exact this
    · rw [show i + 1 + ps.length = i + (p :: ps).length by simp; lia]
      exact hd
theorem ForR.ixRet (Wf : Nat → Wld) {q : PV} : ∀ (ps : List PV) (i k : Nat) (p : PV), (∀ j q, j < k → ps[j]? = some q → ∃ W₁, AssignR D n env (Wf (i + j)) t q W₁ ∧ ExecR D n env W₁ body (.next (Wf (i + j + 1)))) → ps[k]? = some p → (∃ W₁, AssignR D n env (Wf (i + k)) t p W₁ ∧ ExecR D n env W₁ body (.ret q W₂)) → ForR D n env t body orelse (Wf i) ps (.ret q W₂)
  | [], i, k, p, h, hk, _ => by simp at hk
  | p :: ps, i, 0, p', h, hk, ⟨W₁, a, b⟩ => by
    obtain rfl : p = p' := by simpa using hk
    exact .ret a b
  | p :: ps, i, k + 1, p', h, hk, ⟨W₁, a, b⟩ => by
    obtain ⟨W₁', a', b'⟩ := h 0 p (by lia) rfl
    refine .next a' b' (ForR.ixRet Wf ps (i + 1) k p' (fun j q hj hq => ?_) (by simpa using hk) ⟨W₁, ?_, b⟩)
    · have := h (j + 1) q (by lia) (by simpa using hq)
      rw [show i + 1 + j = i + (j + 1) by lia]
      exact this
    · rw [show i + 1 + k = i + (k + 1) by lia]; exact a
theorem ForR.ixBrk (Wf : Nat → Wld) : ∀ (ps : List PV) (i k : Nat) (p : PV), (∀ j q, j < k → ps[j]? = some q → ∃ W₁, AssignR D n env (Wf (i + j)) t q W₁ ∧ ExecR D n env W₁ body (.next (Wf (i + j + 1)))) → ps[k]? = some p → (∃ W₁, AssignR D n env (Wf (i + k)) t p W₁ ∧ ExecR D n env W₁ body (.brk W₂)) → ForR D n env t body orelse (Wf i) ps (.next W₂)
  | [], i, k, p, h, hk, _ => by simp at hk
  | p :: ps, i, 0, p', h, hk, ⟨W₁, a, b⟩ => by
    obtain rfl : p = p' := by simpa using hk
    exact .brk a b
  | p :: ps, i, k + 1, p', h, hk, ⟨W₁, a, b⟩ => by
    obtain ⟨W₁', a', b'⟩ := h 0 p (by lia) rfl
    refine .next a' b' (ForR.ixBrk Wf ps (i + 1) k p' (fun j q hj hq => ?_) (by simpa using hk) ⟨W₁, ?_, b⟩)
    · have := h (j + 1) q (by lia) (by simpa using hq)
      rw [show i + 1 + j = i + (j + 1) by lia]
      exact this
    · rw [show i + 1 + k = i + (k + 1) by lia]; exact a
theorem ExecK.names {σ σ' : Sg} {b : List Stmt} {bs : List (List Stmt)} {o : Out} (hs : ∀ x p, σ'.lookup x = some p → σ.lookup x = some p) (h : ExecK D n env ((L, .frame σ') :: W) (b :: bs) o) : ExecK D n env ((L, .frame σ) :: W) (b :: bs) o := by
  rcases h with ⟨W', h3, h4⟩ | ⟨h3, h4⟩
  · exact .inl ⟨W', ExecR.names .here hs h3, h4⟩
  · exact .inr ⟨ExecR.names .here hs h3, h4⟩
inductive SubSig : Sg → Sg → Prop
  | nil {σ : Sg} : SubSig [] σ
  | cons {x : PySem.Str} {p : PV} {σ' σ : Sg} : SubSig σ' σ → SubSig ((x, p) :: σ') ((x, p) :: σ)
theorem SubSig.look {σ' σ : Sg} (s : SubSig σ' σ) (x : PySem.Str) (p : PV) : σ'.lookup x = some p → σ.lookup x = some p := by
  induction s with
  | nil => exact fun h => (Option.some_ne_none p (h.symm.trans rfl)).elim
  | cons k ih =>
    intro h
    rw [List.lookup_cons] at h ⊢
    revert h
    cases x == _ with
    | true => exact id
    | false => exact ih
theorem ExecK.cutF {σ σ' : Sg} {b : List Stmt} {bs : List (List Stmt)} {o : Out} (hs : SubSig σ' σ) (h : ExecK D n env ((L, .frame σ') :: W) (b :: bs) o) : ExecK D n env ((L, .frame σ) :: W) (b :: bs) o := ExecK.names hs.look h
theorem ExecK.assignSw {x y : PySem.Str} {px py tpos pos : Pos} {k' : Nat} {e : Expr} {p q : PV} {r : List Stmt} {bs : List (List Stmt)} (h1 : EvalR D n env W e (.tup [p, q]) W₁) (h2 : StoreR D env W₁ y q W₂) (h3 : StoreR D env W₂ x p W₃)
    (hw : swappedStores [Expr.Tuple [.Name x px, .Name y py] k' tpos] e env = pure (some [x, y])) (h4 : ExecK D n env W₃ (r :: bs) o) (hs : swapsWithSole [Expr.Tuple [.Name x px, .Name y py] k' tpos] e pos.line env = pure false := by rfl) :
    ExecK D n env W ((.Assign [Expr.Tuple [.Name x px, .Name y py] k' tpos] e pos :: r) :: bs) o := ExecK.st (ExecS.assignSw h1 h2 h3 hw hs) h4
theorem ExecK.assignT {ts : List Expr} {e : Expr} {k' : Nat} {tpos pos : Pos} {p : PV} {r : List Stmt} {bs : List (List Stmt)} (h1 : EvalR D n env W e p W₁) (h2 : AssignR D n env W₁ (Expr.Tuple ts k' tpos) p W₂) (h4 : ExecK D n env W₂ (r :: bs) o) (hs : swapsWithSole [Expr.Tuple ts k' tpos] e pos.line env = pure false := by rfl) (hw : swappedStores [Expr.Tuple ts k' tpos] e env = pure none := by rfl) :
    ExecK D n env W ((.Assign [Expr.Tuple ts k' tpos] e pos :: r) :: bs) o := ExecK.st (ExecS.assignT h1 h2 hs hw) h4
noncomputable def WhileE (D : Wd) (n : Nat) (env : Env) (test : Expr) (body orelse : List Stmt) (r : List Stmt) (bs : List (List Stmt)) (o : Out) (W : Wld) : Prop :=
  (∃ m, WhileR D n env test body orelse m W o ∧ o.stops = true) ∨ ∃ m W₂, WhileR D n env test body orelse m W (.next W₂) ∧ ExecK D n env W₂ (r :: bs) o
theorem ExecK.whileE {test : Expr} {pos : Pos} {r : List Stmt} {bs : List (List Stmt)} (h : WhileE D n env test body orelse r bs o W) : ExecK D n env W ((.While test body orelse pos :: r) :: bs) o := by
  rcases h with ⟨m, h, ho⟩ | ⟨m, W₂, h, hk⟩
  · exact ExecK.whileS h ho
  · exact ExecK.while h hk
section
variable {test : Expr} {r : List Stmt} {bs : List (List Stmt)}
theorem WhileE.out (h1 : TestR D n env W test false W₁) (h2 : ExecK D n env W₁ (r :: bs) o) : WhileE D n env test body [] r bs o W := .inr ⟨0, W₁, .stop h1 ExecR.nil, h2⟩
theorem WhileE.next (h1 : TestR D n env W test true W₁) (h2 : ExecR D n env W₁ body (.next W₂)) (h3 : WhileE D n env test body orelse r bs o W₂) : WhileE D n env test body orelse r bs o W := by
  rcases h3 with ⟨m, h, ho⟩ | ⟨m, W₃, h, hk⟩
  · exact .inl ⟨m + 1, .next h1 h2 h, ho⟩
  · exact .inr ⟨m + 1, W₃, .next h1 h2 h, hk⟩
theorem WhileE.ret {q : PV} (h1 : TestR D n env W test true W₁) (h2 : ExecR D n env W₁ body (.ret q W₂)) : WhileE D n env test body orelse r bs (.ret q W₂) W := .inl ⟨0, .ret h1 h2, rfl⟩
theorem WhileE.brk (h1 : TestR D n env W test true W₁) (h2 : ExecR D n env W₁ body (.brk W₂)) (h3 : ExecK D n env W₂ (r :: bs) o) : WhileE D n env test body orelse r bs o W := .inr ⟨0, W₂, .brk h1 h2, h3⟩
end
theorem upto_len {m : Int} : (upto m).length = m.toNat := by simp [upto]
theorem upto_get {m : Int} {j : Nat} {q : PV} (h : (upto m)[j]? = some q) : q = .int (j : Int) ∧ j < m.toNat := by
  unfold upto at h
  rw [List.getElem?_map] at h
  cases hr : (List.range m.toNat)[j]? with
  | none => rw [hr] at h; cases h
  | some i =>
    rw [hr] at h
    obtain ⟨hlt, e⟩ := List.getElem?_eq_some_iff.mp hr
    rw [List.getElem_range] at e
    subst e
    cases h
    exact ⟨rfl, by simpa using hlt⟩
theorem upto_at {m : Int} {j : Nat} (h : j < m.toNat) : (upto m)[j]? = some (.int (j : Int)) := by
  unfold upto
  rw [List.getElem?_map, List.getElem?_range h]
  rfl
end
end

section
open PySem PySem.W PyProof.Rows PySem.Calls
section
variable {D : Wd} {n : Nat} {env : Env} {L : Addr} {ns : Kinds} {cl : List (PySem.Str × Addr)} {W : Wld}
theorem blt_all : ([PySem.Str.ofString "len", PySem.Str.ofString "range", PySem.Str.ofString "sum", PySem.Str.ofString "iter", PySem.Str.ofString "next", PySem.Str.ofString "bytes", PySem.Str.ofString "hex", PySem.Str.ofString "type", PySem.Str.ofString "str", PySem.Str.ofString "issubclass", PySem.Str.ofString "isinstance", PySem.Str.ofString "tuple", PySem.Str.ofString "map", PySem.Str.ofString "min", PySem.Str.ofString "max", PySem.Str.ofString "enumerate", PySem.Str.ofString "list", PySem.Str.ofString "int", PySem.Str.ofString "bool", PySem.Str.ofString "object", PySem.Str.ofString "bytearray"] : List PySem.Str).map bootBuiltins = [some (.builtin "len"), some (.type "range"), some (.builtin "sum"), some (.builtin "iter"), some (.builtin "next"), some (.type "bytes"), some (.builtin "hex"), some (.type "type"), some (.type "str"), some (.builtin "issubclass"), some (.builtin "isinstance"), some (.type "tuple"), some (.type "map"), some (.builtin "min"), some (.builtin "max"), some (.type "enumerate"), some (.type "list"), some (.type "int"), some (.type "bool"), some (.type "object"), some (.type "bytearray")] := by kernel_rfl
theorem glob_all (f : D.Fit) : ([PySem.Str.ofString "pretty_flags", PySem.Str.ofString "_parse_varint", PySem.Str.ofString "fspath", PySem.Str.ofString "_get_sep", PySem.Str.ofString "join_posixpath", PySem.Str.ofString "basename", PySem.Str.ofString "dirname_posixpath", PySem.Str.ofString "commonpath", PySem.Str.ofString "_find_unsafe", PySem.Str.ofString "StringIO", PySem.Str.ofString "shlex", PySem.Str.ofString "split", PySem.Str.ofString "quote", PySem.Str.ofString "_law_octets", PySem.Str.ofString "_law_depth", PySem.Str.ofString "_law_given", PySem.Str.ofString "_law_back", PySem.Str.ofString "_law_order", PySem.Str.ofString "COMPILER_FLAG_NAMES", PySem.Str.ofString "_index", PySem.Str.ofString "deque", PySem.Str.ofString "len", PySem.Str.ofString "range", PySem.Str.ofString "sum", PySem.Str.ofString "iter", PySem.Str.ofString "next", PySem.Str.ofString "bytes", PySem.Str.ofString "hex", PySem.Str.ofString "type", PySem.Str.ofString "str", PySem.Str.ofString "issubclass", PySem.Str.ofString "isinstance", PySem.Str.ofString "tuple", PySem.Str.ofString "map", PySem.Str.ofString "min", PySem.Str.ofString "max", PySem.Str.ofString "enumerate", PySem.Str.ofString "list", PySem.Str.ofString "int", PySem.Str.ofString "bool", PySem.Str.ofString "object", PySem.Str.ofString "bytearray"] : List PySem.Str).map (nsIn (KK D) mainGlobals) = [some (some (.ref 52)), some (some (.ref 59)), some (some (.ref 132)), some (some (.ref 146)), some (some (.ref 153)), some (some (.ref 160)), some (some (.ref 167)), some (some (.ref 172)), some (some (.ref 873)), some (some (.ref 725)), some (some (.ref 860)), some (some (.ref 872)), some (some (.ref 880)), some (some (.ref 887)), some (some (.ref 892)), some (some (.ref 899)), some (some (.ref 904)), some (some (.ref 911)), some (some (.ref 45)), some (some (.ref 191)), some (some (.type "collections.deque")), some none, some none, some none, some none, some none, some none, some none, some none, some none, some none, some none, some none, some none, some none, some none, some none, some none, some none, some none, some none, some none] := by kernel_rfl
theorem at_of {α β : Type} {g : α → β} {l : List α} {r : List β} (h : l.map g = r) (i : Nat) {x : α} {y : β} (hx : l[i]? = some x) (hy : r[i]? = some y) : g x = y := by
  rw [← h, List.getElem?_map, hx] at hy
  exact Option.some.inj hy
theorem n_len (f : D.Fit) (ok : EnvOk env L ns cl) (hk : List.lookup (PySem.Str.ofString "len") ns = some .globalImplicit) {pos : Pos} : EvalR D n env W (.Name "len" pos) (.con (.builtin "len")) W := EvalR.blt f.toOk ok hk (f.none (at_of (glob_all f) 21 rfl rfl)) (at_of blt_all 0 rfl rfl)
theorem n_range (f : D.Fit) (ok : EnvOk env L ns cl) (hk : List.lookup (PySem.Str.ofString "range") ns = some .globalImplicit) {pos : Pos} : EvalR D n env W (.Name "range" pos) (.con (.type "range")) W := EvalR.blt f.toOk ok hk (f.none (at_of (glob_all f) 22 rfl rfl)) (at_of blt_all 1 rfl rfl)
theorem n_sum (f : D.Fit) (ok : EnvOk env L ns cl) (hk : List.lookup (PySem.Str.ofString "sum") ns = some .globalImplicit) {pos : Pos} : EvalR D n env W (.Name "sum" pos) (.con (.builtin "sum")) W := EvalR.blt f.toOk ok hk (f.none (at_of (glob_all f) 23 rfl rfl)) (at_of blt_all 2 rfl rfl)
theorem n_iter (f : D.Fit) (ok : EnvOk env L ns cl) (hk : List.lookup (PySem.Str.ofString "iter") ns = some .globalImplicit) {pos : Pos} : EvalR D n env W (.Name "iter" pos) (.con (.builtin "iter")) W := EvalR.blt f.toOk ok hk (f.none (at_of (glob_all f) 24 rfl rfl)) (at_of blt_all 3 rfl rfl)
theorem n_next (f : D.Fit) (ok : EnvOk env L ns cl) (hk : List.lookup (PySem.Str.ofString "next") ns = some .globalImplicit) {pos : Pos} : EvalR D n env W (.Name "next" pos) (.con (.builtin "next")) W := EvalR.blt f.toOk ok hk (f.none (at_of (glob_all f) 25 rfl rfl)) (at_of blt_all 4 rfl rfl)
theorem n_bytes (f : D.Fit) (ok : EnvOk env L ns cl) (hk : List.lookup (PySem.Str.ofString "bytes") ns = some .globalImplicit) {pos : Pos} : EvalR D n env W (.Name "bytes" pos) (.con (.type "bytes")) W := EvalR.blt f.toOk ok hk (f.none (at_of (glob_all f) 26 rfl rfl)) (at_of blt_all 5 rfl rfl)
theorem n_hex (f : D.Fit) (ok : EnvOk env L ns cl) (hk : List.lookup (PySem.Str.ofString "hex") ns = some .globalImplicit) {pos : Pos} : EvalR D n env W (.Name "hex" pos) (.con (.builtin "hex")) W := EvalR.blt f.toOk ok hk (f.none (at_of (glob_all f) 27 rfl rfl)) (at_of blt_all 6 rfl rfl)
theorem n_type (f : D.Fit) (ok : EnvOk env L ns cl) (hk : List.lookup (PySem.Str.ofString "type") ns = some .globalImplicit) {pos : Pos} : EvalR D n env W (.Name "type" pos) (.con (.type "type")) W := EvalR.blt f.toOk ok hk (f.none (at_of (glob_all f) 28 rfl rfl)) (at_of blt_all 7 rfl rfl)
theorem n_str (f : D.Fit) (ok : EnvOk env L ns cl) (hk : List.lookup (PySem.Str.ofString "str") ns = some .globalImplicit) {pos : Pos} : EvalR D n env W (.Name "str" pos) (.con (.type "str")) W := EvalR.blt f.toOk ok hk (f.none (at_of (glob_all f) 29 rfl rfl)) (at_of blt_all 8 rfl rfl)
theorem n_issubclass (f : D.Fit) (ok : EnvOk env L ns cl) (hk : List.lookup (PySem.Str.ofString "issubclass") ns = some .globalImplicit) {pos : Pos} : EvalR D n env W (.Name "issubclass" pos) (.con (.builtin "issubclass")) W := EvalR.blt f.toOk ok hk (f.none (at_of (glob_all f) 30 rfl rfl)) (at_of blt_all 9 rfl rfl)
theorem n_isinstance (f : D.Fit) (ok : EnvOk env L ns cl) (hk : List.lookup (PySem.Str.ofString "isinstance") ns = some .globalImplicit) {pos : Pos} : EvalR D n env W (.Name "isinstance" pos) (.con (.builtin "isinstance")) W := EvalR.blt f.toOk ok hk (f.none (at_of (glob_all f) 31 rfl rfl)) (at_of blt_all 10 rfl rfl)
theorem n_tuple (f : D.Fit) (ok : EnvOk env L ns cl) (hk : List.lookup (PySem.Str.ofString "tuple") ns = some .globalImplicit) {pos : Pos} : EvalR D n env W (.Name "tuple" pos) (.con (.type "tuple")) W := EvalR.blt f.toOk ok hk (f.none (at_of (glob_all f) 32 rfl rfl)) (at_of blt_all 11 rfl rfl)
theorem n_map (f : D.Fit) (ok : EnvOk env L ns cl) (hk : List.lookup (PySem.Str.ofString "map") ns = some .globalImplicit) {pos : Pos} : EvalR D n env W (.Name "map" pos) (.con (.type "map")) W := EvalR.blt f.toOk ok hk (f.none (at_of (glob_all f) 33 rfl rfl)) (at_of blt_all 12 rfl rfl)
theorem n_min (f : D.Fit) (ok : EnvOk env L ns cl) (hk : List.lookup (PySem.Str.ofString "min") ns = some .globalImplicit) {pos : Pos} : EvalR D n env W (.Name "min" pos) (.con (.builtin "min")) W := EvalR.blt f.toOk ok hk (f.none (at_of (glob_all f) 34 rfl rfl)) (at_of blt_all 13 rfl rfl)
theorem n_max (f : D.Fit) (ok : EnvOk env L ns cl) (hk : List.lookup (PySem.Str.ofString "max") ns = some .globalImplicit) {pos : Pos} : EvalR D n env W (.Name "max" pos) (.con (.builtin "max")) W := EvalR.blt f.toOk ok hk (f.none (at_of (glob_all f) 35 rfl rfl)) (at_of blt_all 14 rfl rfl)
theorem n_enumerate (f : D.Fit) (ok : EnvOk env L ns cl) (hk : List.lookup (PySem.Str.ofString "enumerate") ns = some .globalImplicit) {pos : Pos} : EvalR D n env W (.Name "enumerate" pos) (.con (.type "enumerate")) W := EvalR.blt f.toOk ok hk (f.none (at_of (glob_all f) 36 rfl rfl)) (at_of blt_all 15 rfl rfl)
theorem n_list (f : D.Fit) (ok : EnvOk env L ns cl) (hk : List.lookup (PySem.Str.ofString "list") ns = some .globalImplicit) {pos : Pos} : EvalR D n env W (.Name "list" pos) (.con (.type "list")) W := EvalR.blt f.toOk ok hk (f.none (at_of (glob_all f) 37 rfl rfl)) (at_of blt_all 16 rfl rfl)
theorem n_int (f : D.Fit) (ok : EnvOk env L ns cl) (hk : List.lookup (PySem.Str.ofString "int") ns = some .globalImplicit) {pos : Pos} : EvalR D n env W (.Name "int" pos) (.con (.type "int")) W := EvalR.blt f.toOk ok hk (f.none (at_of (glob_all f) 38 rfl rfl)) (at_of blt_all 17 rfl rfl)
theorem n_bool (f : D.Fit) (ok : EnvOk env L ns cl) (hk : List.lookup (PySem.Str.ofString "bool") ns = some .globalImplicit) {pos : Pos} : EvalR D n env W (.Name "bool" pos) (.con (.type "bool")) W := EvalR.blt f.toOk ok hk (f.none (at_of (glob_all f) 39 rfl rfl)) (at_of blt_all 18 rfl rfl)
theorem n_object (f : D.Fit) (ok : EnvOk env L ns cl) (hk : List.lookup (PySem.Str.ofString "object") ns = some .globalImplicit) {pos : Pos} : EvalR D n env W (.Name "object" pos) (.con (.type "object")) W := EvalR.blt f.toOk ok hk (f.none (at_of (glob_all f) 40 rfl rfl)) (at_of blt_all 19 rfl rfl)
theorem n_bytearray (f : D.Fit) (ok : EnvOk env L ns cl) (hk : List.lookup (PySem.Str.ofString "bytearray") ns = some .globalImplicit) {pos : Pos} : EvalR D n env W (.Name "bytearray" pos) (.con (.type "bytearray")) W := EvalR.blt f.toOk ok hk (f.none (at_of (glob_all f) 41 rfl rfl)) (at_of blt_all 20 rfl rfl)
theorem n_pretty_flags (f : D.Fit) (ok : EnvOk env L ns cl) (hk : List.lookup (PySem.Str.ofString "pretty_flags") ns = some .globalImplicit) {pos : Pos} : EvalR D n env W (.Name "pretty_flags" pos) (.con (.ref 52)) W := EvalR.glob f.toOk ok hk (f.glob (at_of (glob_all f) 0 rfl rfl))
theorem n_parse_varint (f : D.Fit) (ok : EnvOk env L ns cl) (hk : List.lookup (PySem.Str.ofString "_parse_varint") ns = some .globalImplicit) {pos : Pos} : EvalR D n env W (.Name "_parse_varint" pos) (.con (.ref 59)) W := EvalR.glob f.toOk ok hk (f.glob (at_of (glob_all f) 1 rfl rfl))
theorem n_fspath (f : D.Fit) (ok : EnvOk env L ns cl) (hk : List.lookup (PySem.Str.ofString "fspath") ns = some .globalImplicit) {pos : Pos} : EvalR D n env W (.Name "fspath" pos) (.con (.ref 132)) W := EvalR.glob f.toOk ok hk (f.glob (at_of (glob_all f) 2 rfl rfl))
theorem n_get_sep (f : D.Fit) (ok : EnvOk env L ns cl) (hk : List.lookup (PySem.Str.ofString "_get_sep") ns = some .globalImplicit) {pos : Pos} : EvalR D n env W (.Name "_get_sep" pos) (.con (.ref 146)) W := EvalR.glob f.toOk ok hk (f.glob (at_of (glob_all f) 3 rfl rfl))
theorem n_join_posixpath (f : D.Fit) (ok : EnvOk env L ns cl) (hk : List.lookup (PySem.Str.ofString "join_posixpath") ns = some .globalImplicit) {pos : Pos} : EvalR D n env W (.Name "join_posixpath" pos) (.con (.ref 153)) W := EvalR.glob f.toOk ok hk (f.glob (at_of (glob_all f) 4 rfl rfl))
theorem n_basename (f : D.Fit) (ok : EnvOk env L ns cl) (hk : List.lookup (PySem.Str.ofString "basename") ns = some .globalImplicit) {pos : Pos} : EvalR D n env W (.Name "basename" pos) (.con (.ref 160)) W := EvalR.glob f.toOk ok hk (f.glob (at_of (glob_all f) 5 rfl rfl))
theorem n_dirname_posixpath (f : D.Fit) (ok : EnvOk env L ns cl) (hk : List.lookup (PySem.Str.ofString "dirname_posixpath") ns = some .globalImplicit) {pos : Pos} : EvalR D n env W (.Name "dirname_posixpath" pos) (.con (.ref 167)) W := EvalR.glob f.toOk ok hk (f.glob (at_of (glob_all f) 6 rfl rfl))
theorem n_commonpath (f : D.Fit) (ok : EnvOk env L ns cl) (hk : List.lookup (PySem.Str.ofString "commonpath") ns = some .globalImplicit) {pos : Pos} : EvalR D n env W (.Name "commonpath" pos) (.con (.ref 172)) W := EvalR.glob f.toOk ok hk (f.glob (at_of (glob_all f) 7 rfl rfl))
theorem n_find_unsafe (f : D.Fit) (ok : EnvOk env L ns cl) (hk : List.lookup (PySem.Str.ofString "_find_unsafe") ns = some .globalImplicit) {pos : Pos} : EvalR D n env W (.Name "_find_unsafe" pos) (.con (.ref 873)) W := EvalR.glob f.toOk ok hk (f.glob (at_of (glob_all f) 8 rfl rfl))
theorem n_StringIO (f : D.Fit) (ok : EnvOk env L ns cl) (hk : List.lookup (PySem.Str.ofString "StringIO") ns = some .globalImplicit) {pos : Pos} : EvalR D n env W (.Name "StringIO" pos) (.con (.ref 725)) W := EvalR.glob f.toOk ok hk (f.glob (at_of (glob_all f) 9 rfl rfl))
theorem n_shlex (f : D.Fit) (ok : EnvOk env L ns cl) (hk : List.lookup (PySem.Str.ofString "shlex") ns = some .globalImplicit) {pos : Pos} : EvalR D n env W (.Name "shlex" pos) (.con (.ref 860)) W := EvalR.glob f.toOk ok hk (f.glob (at_of (glob_all f) 10 rfl rfl))
theorem n_split (f : D.Fit) (ok : EnvOk env L ns cl) (hk : List.lookup (PySem.Str.ofString "split") ns = some .globalImplicit) {pos : Pos} : EvalR D n env W (.Name "split" pos) (.con (.ref 872)) W := EvalR.glob f.toOk ok hk (f.glob (at_of (glob_all f) 11 rfl rfl))
theorem n_quote (f : D.Fit) (ok : EnvOk env L ns cl) (hk : List.lookup (PySem.Str.ofString "quote") ns = some .globalImplicit) {pos : Pos} : EvalR D n env W (.Name "quote" pos) (.con (.ref 880)) W := EvalR.glob f.toOk ok hk (f.glob (at_of (glob_all f) 12 rfl rfl))
theorem n_law_octets (f : D.Fit) (ok : EnvOk env L ns cl) (hk : List.lookup (PySem.Str.ofString "_law_octets") ns = some .globalImplicit) {pos : Pos} : EvalR D n env W (.Name "_law_octets" pos) (.con (.ref 887)) W := EvalR.glob f.toOk ok hk (f.glob (at_of (glob_all f) 13 rfl rfl))
theorem n_law_depth (f : D.Fit) (ok : EnvOk env L ns cl) (hk : List.lookup (PySem.Str.ofString "_law_depth") ns = some .globalImplicit) {pos : Pos} : EvalR D n env W (.Name "_law_depth" pos) (.con (.ref 892)) W := EvalR.glob f.toOk ok hk (f.glob (at_of (glob_all f) 14 rfl rfl))
theorem n_law_given (f : D.Fit) (ok : EnvOk env L ns cl) (hk : List.lookup (PySem.Str.ofString "_law_given") ns = some .globalImplicit) {pos : Pos} : EvalR D n env W (.Name "_law_given" pos) (.con (.ref 899)) W := EvalR.glob f.toOk ok hk (f.glob (at_of (glob_all f) 15 rfl rfl))
theorem n_law_back (f : D.Fit) (ok : EnvOk env L ns cl) (hk : List.lookup (PySem.Str.ofString "_law_back") ns = some .globalImplicit) {pos : Pos} : EvalR D n env W (.Name "_law_back" pos) (.con (.ref 904)) W := EvalR.glob f.toOk ok hk (f.glob (at_of (glob_all f) 16 rfl rfl))
theorem n_law_order (f : D.Fit) (ok : EnvOk env L ns cl) (hk : List.lookup (PySem.Str.ofString "_law_order") ns = some .globalImplicit) {pos : Pos} : EvalR D n env W (.Name "_law_order" pos) (.con (.ref 911)) W := EvalR.glob f.toOk ok hk (f.glob (at_of (glob_all f) 17 rfl rfl))
theorem n_COMPILER_FLAG_NAMES (f : D.Fit) (ok : EnvOk env L ns cl) (hk : List.lookup (PySem.Str.ofString "COMPILER_FLAG_NAMES") ns = some .globalImplicit) {pos : Pos} : EvalR D n env W (.Name "COMPILER_FLAG_NAMES" pos) (.con (.ref 45)) W := EvalR.glob f.toOk ok hk (f.glob (at_of (glob_all f) 18 rfl rfl))
theorem n_index (f : D.Fit) (ok : EnvOk env L ns cl) (hk : List.lookup (PySem.Str.ofString "_index") ns = some .globalImplicit) {pos : Pos} : EvalR D n env W (.Name "_index" pos) (.con (.ref 191)) W := EvalR.glob f.toOk ok hk (f.glob (at_of (glob_all f) 19 rfl rfl))
theorem n_deque (f : D.Fit) (ok : EnvOk env L ns cl) (hk : List.lookup (PySem.Str.ofString "deque") ns = some .globalImplicit) {pos : Pos} : EvalR D n env W (.Name "deque" pos) (.con (.type "collections.deque")) W := EvalR.glob f.toOk ok hk (f.glob (at_of (glob_all f) 20 rfl rfl))
end
end

section
open PySem PySem.W PyProof.Rows PySem.Calls
theorem slot_biter_next : Slot "bytes_iterator" "__next__" "bytes_iterator.__next__" :=
  .of (owner := "bytes_iterator") (n := "__next__") (by rw [typeLookup_type, builtinLookup_eq_fast]; kernel_rfl) (by decide +kernel) (by decide +kernel) (by decide +kernel)
    (by first | exact .inl (by decide +kernel) | exact .inr (by decide +kernel)) (by rw [isSubtype_type]; kernel_rfl)
theorem entry_biter_next : entryFor table "bytes_iterator.__next__" = some Builtin.«bytes_iterator.__next__» := entryFor_of_fast (by kernel_rfl)
theorem args_biter_next (a : Value) : argsOk "bytes_iterator.__next__" ⟨[a], []⟩ := by unfold argsOk; kernel_rfl
theorem slot_bytes_iter : Slot "bytes" "__iter__" "bytes.__iter__" :=
  .of (owner := "bytes") (n := "__iter__") (by rw [typeLookup_type, builtinLookup_eq_fast]; kernel_rfl) (by decide +kernel) (by decide +kernel) (by decide +kernel)
    (by first | exact .inl (by decide +kernel) | exact .inr (by decide +kernel)) (by rw [isSubtype_type]; kernel_rfl)
theorem entry_bytes_iter : entryFor table "bytes.__iter__" = some Builtin.«bytes.__iter__» := entryFor_of_fast (by kernel_rfl)
theorem args_bytes_iter (a : Value) : argsOk "bytes.__iter__" ⟨[a], []⟩ := by unfold argsOk; kernel_rfl
section
variable {D : Wd} {n : Nat} {env : Env} {L : Addr} {ns : Kinds} {cl : List (PySem.Str × Addr)} {W W' W₁ W₂ W₃ : Wld} {F G : Led} {s : Shared}
theorem CallR.next {it : Addr} {b : Array UInt8} {i : Nat} {v : UInt8} (hp : WPut W it (.biter b i) (.biter b (i + 1)) W') (hv : b[i]? = some v) : CallR D n W (.builtin "next") [.con (.ref it)] [] (.int (v.toNat : Int)) W' := by
  intro A F G s vs ks Q E rm c ra hk rk k
  obtain rfl : ks = [] := by simpa using hk
  obtain ⟨v1, rfl, r1⟩ := ra.one
  obtain rfl := r1.con_v
  obtain ⟨o, t, u, ho, hc, hd⟩ := c.wok _ hp.get.mem
  have hT : s.TypeIs (.ref it) "bytes_iterator" := ⟨o, ho, hc⟩
  refine call_function_entry (by decide +kernel) (by decide +kernel) kdk_entry_next (kdk_args_next _) ?_
  unfold Builtin.«next»
  refine wpAny_bind (m := someArgs "next" 1 2 _) (wpAny_of_eq (a := [Value.ref it]) (by first | rfl | kernel_rfl!) ?_)
  dsimp only
  refine wpAny_bind (wpAny_specialOf (name := Str.ofString "__next__") hT slot_biter_next.lookup ?_)
  refine wpAny_ite_split (fun hab => absurd hab (by decide)) (fun _ => ?_)
  refine wpAny_bind (wpAny_callSpecial?_slot (name := Str.ofString "__next__") hT slot_biter_next (wpAny_call_entry slot_biter_next hT entry_biter_next ?_ (args_biter_next _)))
  show wpAny _ _ (field (.ref it) 0 >>= _) _ _ s
  refine wpAny_bind (wpAny_field ho hd (x := .bytes b t) rfl ?_)
  show wpAny _ _ (if (Value.bytes b t == Value.none) = true then _ else _) _ _ s
  rw [if_neg (show ¬ ((Value.bytes b t == Value.none) = true) from Bool.false_ne_true)]
  show wpAny _ _ (field (.ref it) 1 >>= _) _ _ s
  refine wpAny_bind (wpAny_field ho hd (x := .int i u) rfl ?_)
  refine wpAny_bind (wpAny_pure ?_)
  simp only [Int.toNat_natCast, hv]
  refine wpAny_bind (wpAny_setField ho hd (by simp) ?_)
  refine wpAny_bind (wpAny_mkInt' ?_)
  refine wpAny_pure ⟨_, rfl, wpAny_pure ⟨_, rfl, ?_⟩⟩
  refine k G _ _ Led.le.rfl (c.putW (t := s.toks + 1) hp (Heap.SameBut.update ..) ⟨_, t, 0, Heap.get?_update_self _ ho (Obj.isFreed_of_fields (Obj.data_mapFields hd _)), (Obj.cls_mapFields ..).trans hc, ?_⟩) (.int _ _)
  rw [Obj.data_mapFields hd]
  simp [rawInt]
theorem CallR.iterb {b : Array UInt8} {R : Value → Shared → Prop} (A : Around) (E : Value → Shared → Prop) (v : Value) (c : Core D F G W s) (r : Rep G v (.bytes b))
    (k : ∀ it s', Core D F G ((it, .biter b 0) :: W) s' → R (.ref it) s') : wpAny (model D.prog D.w) A (call (.builtin "iter") [v]) R E s := by
  obtain ⟨t, rfl⟩ := r.bytes_v
  have hT : s.TypeIs (.bytes b t) "bytes" := rfl
  refine call_function_entry (by decide +kernel) (by decide +kernel) kdk_entry_iter (kdk_args_iter _) ?_
  unfold Builtin.«iter»
  refine wpAny_bind (m := someArgs "iter" 1 2 _) (wpAny_of_eq (a := [Value.bytes b t]) (by first | rfl | kernel_rfl!) ?_)
  show wpAny _ _ (pyIter (.bytes b t) >>= _) _ _ _
  refine wpAny_bind (wpAny_pyIter_slot hT slot_bytes_iter (wpAny_call_entry slot_bytes_iter hT entry_bytes_iter ?_ (args_bytes_iter _)))
  show wpAny _ _ (do ret (← newFields "bytes_iterator" [.bytes b t, rawInt 0])) _ _ s
  refine wpAny_bind (wpAny_newObj_type (wpAny_pure ⟨_, rfl, "bytes_iterator", _, ⟨_, Heap.get?_push_size _ rfl, rfl⟩, slot_biter_next.lookup, ?_⟩))
  exact wpAny_pure ⟨_, rfl, k _ _ (c.new (t := s.toks) (Nat.le_refl _) (fun _ _ e => Heap.get?_push_of_some _ e) ⟨_, t, 0, Heap.get?_push_size _ rfl, rfl, rfl⟩)⟩
end
end

section
open PySem PySem.W PyProof.Rows PySem.Calls PyProof.V
section
variable {D : Wd} {n : Nat} {env : Env} {L : Addr} {ns : Kinds} {cl : List (PySem.Str × Addr)} {W W' W₁ W₂ W₃ : Wld} {F G : Led} {s : Shared}
theorem CallR.hex {i : Int} (hz : (baseText "0x" 16 i).length ≤ 16777216) : CallR D n W (.builtin "hex") [.int i] [] (.str (baseText "0x" 16 i)) W := CallR.of1 fun A Fo G W s a Q E rm c r k => by
  obtain ⟨t, rfl⟩ := r.int_v
  refine P.hex_of_int ?_ (by rw [sizeLine_eq]; exact hz)
  exact k G _ _ Led.le.rfl (c.toks _) (.str _ _)
noncomputable def DictI (D : Wd) (d : Addr) (T : List (Int × PySem.Str)) : Prop := IntTab D.prog D.w D.B d (T.map fun p => (.int p.1, .str p.2))
theorem EvalR.getI {o : Expr} {apos pos : Pos} {args : List Expr} {d : Addr} {T : List (Int × PySem.Str)} {i : Int} {y : PySem.Str} (hT : DictI D d T) (hbase : ∀ t, attributeBase o "get" env t = t) (ho : EvalR D n env W o (.con (.ref d)) W₁) (ha : EvalsR D n env W₁ args [.int i, .str y] W₂)
    (r : PySem.Str) (hr : (PySem.Spec.lookup (.int i) (T.map fun p => (PyData.int p.1, PyData.str p.2))).getD (.str y) = .str r)
    (hn : args.length < 30 := by decide) (hline : (apos.endLine == pos.line) = true := by rfl) : EvalR D n env W (.Call (.Attribute o "get" apos) args [] pos) (.str r) W₂ := by
  intro A F G s Q E rm c k
  rw [arm_eval_Call, hbase]
  refine wpAny_bind (ho A F G s _ E rm c fun G₁ ov s₁ l₁ c₁ rv => wpAny_bind (wpAny_standAt ?_))
  obtain rfl := rv.con_v
  have hk := fun {s' : Shared} {G' : Led} {W' : Wld} (c' : Core D F G' W' s') => TabAt.keep hT (h' := s'.heap) c'.keeps
  refine methodCall_at (first := [.ref d]) (f := .builtin "dict.get") (ha.noStar (pos := pos)).2 hn hline (fun pl Q hq => getMethod_intTab_get (hk c₁) hq) ?_
  refine callWith_flat (fun a e => by cases e) (ha.noStar (pos := pos)).1 (evalArgs_of (ha.noStar (pos := pos)).1 ?_)
  refine ha.wp A F G₁ s₁ _ E rm c₁ fun G₂ vs s₂ l₂ c₂ rs => ?_
  obtain ⟨v1, v2, rfl, r1, r2⟩ := RepAll.two rs; obtain ⟨t1, rfl⟩ := r1.int_v; obtain ⟨t2, rfl⟩ := r2.str_v
  refine call_get2_intTab (hk c₂) (Flat.str y _) fun v hv => ?_
  rw [hr] at hv
  obtain ⟨t, rfl⟩ := hv.str_inv
  exact k G₂ _ _ (l₁.trans l₂) (c₂.toks _) (.str _ _)
end
end

section
open PySem PySem.W PyProof.Rows PySem.Calls PyProof.V
section
variable {D : Wd} {n : Nat} {env : Env} {L : Addr} {ns : Kinds} {cl : List (PySem.Str × Addr)} {W W' W₁ W₂ W₃ : Wld} {F G : Led} {s : Shared}
theorem Core.perm' {F G : Led} {W W' : Wld} {s : Shared} (c : Core D F G W s) (h : W'.Perm W) : Core D F G W' s :=
  ⟨c.base, c.inn, c.frn, c.apart, fun p hp => c.wG p (h.subset hp), fun p hp => c.wF p (h.subset hp), (h.map _).nodup_iff.mpr c.nd, fun p hp => c.wok p (h.subset hp), c.gens, c.os⟩
structure WalkIt (D : Wd) (n : Nat) (G₀ : Led) (I : Addr) (Wi : Nat → Wld) (Wend : Wld) (ps : List PV) : Prop where
  next : ∀ (A : Around) (F G : Led) (W : Wld) (s : Shared) (i : Nat) (Q : Option Value → Shared → Prop) (E : Value → Shared → Prop), Room A n → Core D F G (Wi i ++ W) s → G₀.le G → i ≤ ps.length →
    (∀ p, ps[i]? = some p → ∀ G' v s', G.le G' → Core D F G' (Wi (i + 1) ++ W) s' → Rep G' v p → Q (some v) s') → (ps[i]? = none → ∀ G' s', G.le G' → Core D F G' (Wend ++ W) s' → Q none s') →
    wpAny (model D.prog D.w) A (pyNext (.ref I)) Q E s
theorem lst_turn {S : Addr} {vs : List Value} {h : Heap} {f : Array Value → Array Value} {o : Obj} {m : Nat} (ho : h.get? S = some o) (hc : o.cls = .type "list") (hd : o.dict = none) (hdt : o.data = .seq vs.toArray m) (us : List Value) (hf : f vs.toArray = us.toArray) :
    PlainL (h.update S (Obj.mapSeq f)) S us.toArray := by
  obtain ⟨c, d, dt, sl⟩ := o
  simp only at hc hd hdt
  subst hc hd hdt
  exact ⟨_, _, Heap.get?_update_self _ ho rfl, rfl, rfl, by rw [← hf]; rfl⟩
theorem extend_loop {G₀ : Led} {I : Addr} {Wi : Nat → Wld} {Wend : Wld} {ps : List PV} (X : WalkIt D n G₀ I Wi Wend ps) (hz : ps.length ≤ 100000) (S : Addr) (res : Value) :
    ∀ (k i : Nat) (A : Around) (Fo G : Led) (W : Wld) (s : Shared) (R : Result → Shared → Prop), ps.length - i = k → i ≤ ps.length → Room A (n + 1) → Core D Fo G ((S, .lst (ps.take i)) :: (Wi i ++ W)) s → G₀.le G →
    (∀ G' s', G.le G' → Core D Fo G' ((S, .lst ps) :: (Wend ++ W)) s' → R (.ok (.ret res)) s') → codeAny (model D.prog D.w) A (.builtin "list.extend.loop" ⟨[.ref S, .ref I, res], []⟩) R s := by
  intro k
  induction k with
  | zero =>
    intro i A Fo G W s R hk hi rm c hG hR
    have hin : i = ps.length := by lia
    subst hin
    refine codeAny_builtin PySem.F.entry_extend_loop ?_
    rw [Around.under_plainId PySem.F.plain_extend_loop _]
    show wpAny _ A.in1 (pyNext (.ref I) >>= _) _ _ s
    have c' : Core D Fo G (Wi ps.length ++ ((S, .lst (ps.take ps.length)) :: W)) s := c.perm' List.perm_middle
    refine wpAny_bind (X.next _ Fo G _ s _ _ _ rm.in1 c' hG (Nat.le_refl _) (fun p hp => by simp at hp) fun _ G' s' l c₁ => ?_)
    refine wpAny_pure (hR G' s' l ?_)
    have := c₁.perm' (W' := (S, .lst (ps.take ps.length)) :: (Wend ++ W)) List.perm_middle.symm
    rwa [List.take_length] at this
  | succ k ih =>
    intro i A Fo G W s R hk hi rm c hG hR
    have hlt : i < ps.length := by lia
    have hp : ps[i]? = some ps[i] := List.getElem?_eq_getElem hlt
    refine codeAny_builtin PySem.F.entry_extend_loop ?_
    rw [Around.under_plainId PySem.F.plain_extend_loop _]
    show wpAny _ A.in1 (pyNext (.ref I) >>= _) _ _ s
    have c' : Core D Fo G (Wi i ++ ((S, .lst (ps.take i)) :: W)) s := c.perm' List.perm_middle
    refine wpAny_bind (X.next _ Fo G _ s _ _ _ rm.in1 c' hG hi (fun p hp' G' v s' l c₁ rv => ?_) fun hn => by rw [hp] at hn; cases hn)
    rw [hp] at hp'
    cases hp'
    have c₂ := c₁.perm' (W' := (S, .lst (ps.take i)) :: (Wi (i + 1) ++ W)) List.perm_middle.symm
    obtain ⟨vs, ⟨o, m, ho, hc, hd, hdt⟩, rvs⟩ := c₂.wok _ (.head _)
    have ho : s'.heap.get? S = some o := ho
    have hvl : vs.length = i := by rw [rvs.length, List.length_take]; lia
    show wpAny _ A.in1 (updateSeq S (·.push v) >>= _) _ _ _
    refine wpAny_bind (wpAny_updateSeq ho hdt (wpAny_pure ⟨plainId_quiet PySem.F.plain_extend_loop _, ?_⟩) (by rw [List.size_toArray, hvl, sizeLine_eq]; lia) (by rw [Array.size_push, List.size_toArray, hvl, sizeLine_eq]; lia))
    refine ih (i + 1) A Fo G' W _ R (by lia) hlt rm (c₂.putW (m' := .lst (ps.take (i + 1))) (t := s'.toks) .here (Heap.SameBut.update ..) ⟨vs ++ [v], lst_turn ho hc hd hdt _ (by simp), ?_⟩) (hG.trans l) fun G'' s'' l' c₃ => hR G'' s'' (l.trans l') c₃
    rw [List.take_succ, hp]
    exact rvs.append (.cons rv .nil)
end
end

section
open PySem PySem.W PyProof.Rows PySem.Calls PyProof.V
section
variable {D : Wd} {n : Nat} {env : Env} {L : Addr} {ns : Kinds} {cl : List (PySem.Str × Addr)} {W W' W₁ W₂ W₃ : Wld} {s : Shared}
structure IterOf (D : Wd) (n : Nat) (G₀ : Led) (X I : Addr) (typ : Value) (W₀ W₁ : Wld) : Prop where
  ty : ∀ (A : Around) (Fo G : Led) (W : Wld) (s : Shared) (Q : Value → Shared → Prop) (E : Value → Shared → Prop), Core D Fo G (W₀ ++ W) s → Q typ s → wpAny (model D.prog D.w) A (typeOf (.ref X)) Q E s
  len : ∀ (A : Around) (Fo G : Led) (W : Wld) (s : Shared) (Q : Option Value → Shared → Prop) (E : Value → Shared → Prop), Core D Fo G (W₁ ++ W) s → Q none s → wpAny (model D.prog D.w) A (specialOf (.ref X) "__len__") Q E s
  hint : ∀ (A : Around) (Fo G : Led) (W : Wld) (s : Shared) (Q : Option Value → Shared → Prop) (E : Value → Shared → Prop), Core D Fo G (W₁ ++ W) s → Q none s → wpAny (model D.prog D.w) A (specialOf (.ref X) "__length_hint__") Q E s
  iter : ∀ (A : Around) (Fo G : Led) (W : Wld) (s : Shared) (Q : Value → Shared → Prop) (E : Value → Shared → Prop), Room A n → Core D Fo G (W₀ ++ W) s → G₀.le G → (∀ G' s', G.le G' → Core D Fo G' (W₁ ++ W) s' → Q (.ref I) s') → wpAny (model D.prog D.w) A (pyIter (.ref X)) Q E s
  nl : (typ == .type "list") = false
  nt : (typ == .type "tuple") = false
theorem extendWith {G₀ : Led} {X I : Addr} {typ : Value} {W₀ : Wld} {Wi : Nat → Wld} {Wend : Wld} {ps : List PV} (Y : IterOf D n G₀ X I typ W₀ (Wi 0)) (Z : WalkIt D n G₀ I Wi Wend ps) (hz : ps.length ≤ 100000) (S : Addr) (hSX : S ≠ X) (res : Value) (A : Around) (Fo G : Led) (W : Wld) (s : Shared) (R : Result → Shared → Prop)
    (rm : Room A (n + 1)) (c : Core D Fo G ((S, .lst []) :: (W₀ ++ W)) s) (hG : G₀.le G) (hR : ∀ G' s', G.le G' → Core D Fo G' ((S, .lst ps) :: (Wend ++ W)) s' → R (.ok (.ret res)) s') :
    wpAny (model D.prog D.w) A.in1 (Builtin.List.listExtendWith (.ref S) (.ref X) res) (fun fin s' => match fin with | .done f => R (.ok f) s' | .again c' => c'.quiet = true ∧ codeAny (model D.prog D.w) A c' R s') (fun e s' => R (.error e) s') s := by
  unfold Builtin.List.listExtendWith
  refine wpAny_bind (Y.ty _ Fo G ((S, .lst []) :: W) s _ _ (c.perm' List.perm_middle) ?_)
  have h1 : Builtin.List.listSameRef (.ref S) (.ref X) = false := by simp [Builtin.List.listSameRef, hSX]
  simp only [h1, Y.nl, Y.nt, Bool.or_false, Bool.false_eq_true, if_false]
  refine wpAny_bind (Y.iter _ Fo G ((S, .lst []) :: W) s _ _ rm.in1 (c.perm' List.perm_middle) hG fun G₁ s₁ l₁ c₁ => ?_)
  refine wpAny_bind (wpAny_holding ?_)
  unfold Builtin.List.listLengthHint
  refine wpAny_bind (Y.len _ Fo G₁ _ s₁ _ _ c₁ ?_)
  show wpAny _ A.in1 (specialOf (Value.ref X) (Str.ofString "__length_hint__") >>= _) _ _ _
  refine wpAny_bind (Y.hint _ Fo G₁ _ s₁ _ _ c₁ ?_)
  refine wpAny_pure ?_
  show wpAny _ A.in1 (rule "list.extend.makes-room" >>= fun _ => Builtin.List.listTouch (.ref S) >>= fun _ =>
    again (.builtin "list.extend.loop" ⟨[.ref S, .ref I, res], []⟩)) _ _ _
  refine wpAny_bind (wpAny_rule ?_)
  have c₂ := c₁.perm' (W' := (S, .lst []) :: (Wi 0 ++ W)) List.perm_middle.symm
  obtain ⟨vs, ⟨o, m, ho, hc, hd, hdt⟩, rvs⟩ := c₂.wok _ (.head _)
  obtain rfl := rvs.nil_v
  have ho : s₁.heap.get? S = some o := ho
  refine wpAny_bind ?_
  show wpAny _ A.in1 (updateSeq S (·.push .none) >>= fun _ => updateSeq S (·.pop)) _ _ _
  refine wpAny_bind (wpAny_updateSeq ho hdt ?_)
  obtain ⟨o₂, m₂, ho₂, hc₂, hd₂, hdt₂⟩ := lst_turn (f := (·.push Value.none)) ho hc hd hdt [.none] (by simp)
  refine wpAny_updateSeq ho₂ hdt₂ ?_
  have hp₃ := lst_turn (f := (·.pop)) ho₂ hc₂ hd₂ hdt₂ [] (by simp)
  have c₃ : Core D Fo G₁ ((S, .lst []) :: (Wi 0 ++ W)) _ := (c₂.putW (m' := .lst []) (t := s₁.toks) .here ((Heap.SameBut.update ..).trans (Heap.SameBut.update ..)) ⟨[], hp₃, .nil⟩)
  refine wpAny_pure ⟨plainId_quiet F.plain_extend_loop _, extend_loop Z hz S res ps.length 0 A Fo G₁ W _ R (by lia) (Nat.zero_le _) rm c₃ (hG.trans l₁) fun G₂ s₂ l₂ c₄ => hR G₂ s₂ (l₁.trans l₂) c₄⟩
theorem collectR {G₀ : Led} {X I : Addr} {typ : Value} {W₀ : Wld} {Wi : Nat → Wld} {Wend : Wld} {ps : List PV} (Y : IterOf D n G₀ X I typ W₀ (Wi 0)) (Z : WalkIt D n G₀ I Wi Wend ps) (hz : ps.length ≤ 100000) (A : Around) (Fo G : Led) (W : Wld) (s : Shared) (Q : List Value → Shared → Prop) (E : Value → Shared → Prop)
    (rm : Room A (n + 2)) (c : Core D Fo G (W₀ ++ W) s) (hG : G₀.le G) (hX : ∃ o, s.heap.get? X = some o) (hQ : ∀ G' vs s', G.le G' → Core D Fo G' (Wend ++ W) s' → RepAll G' vs ps → Q vs s') : wpAny (model D.prog D.w) A (collect (.ref X)) Q E s := by
  unfold collect
  refine wpAny_bind (wpAny_runValue (codeAny_builtin F.entry_proto_collect ?_))
  rw [Around.under_plainId F.plain_proto_collect _]
  show wpAny _ A.in1 (newList [] >>= fun l => again (.builtin "list.__iadd__" ⟨[l, .ref X], []⟩)) _ _ s
  refine wpAny_bind (wpAny_newObj_type ?_)
  refine wpAny_pure ⟨plainId_quiet F.plain_list_iadd _, codeAny_builtin F.entry_list_iadd ?_⟩
  rw [Around.under_plainId F.plain_list_iadd _]
  obtain ⟨ox, hx⟩ := hX
  have c₁ : Core D Fo G ((s.heap.objs.size, .lst []) :: (W₀ ++ W)) _ := c.new (t := s.toks) (h' := s.heap.push { cls := .type "list", data := .seq ([] : List Value).toArray }) (Nat.le_refl _) (fun _ _ e => Heap.get?_push_of_some _ e) ⟨[], ⟨_, _, Heap.get?_push_size _ rfl, rfl, rfl, rfl⟩, .nil⟩
  refine extendWith Y Z hz s.heap.objs.size (Nat.ne_of_gt (Heap.lt_size hx)) (.ref s.heap.objs.size) A Fo G W _ (fun r s' => match r with
    | .ok (.ret v) => wpAny (model D.prog D.w) A (match v with
            | Value.ref a => do
              match (← load a).data with
                | Data.seq xs _ => pure xs.toList
                | _ => unsupported "internal:collect"
            | _ => unsupported "internal:collect") Q E s'
    | .ok _ => False
    | .error e => E e s') (rm.mono (by lia)) c₁ hG fun G' s' l c₂ => ?_
  obtain ⟨vs, ⟨o, m, ho, hc, hd, hdt⟩, rvs⟩ := c₂.wok _ (.head _)
  show wpAny _ A (load s.heap.objs.size >>= _) _ _ s'
  refine wpAny_bind (wpAny_load ho ?_)
  rw [hdt]
  exact wpAny_pure (hQ G' _ s' l c₂.pop rvs)
end
end

section
open PySem PySem.W PyProof.Rows PySem.Calls PyProof.V
theorem mro_map : mroOf (.type "map") = pure [.type "map", .type "object"] := by rw [mroOf_type]; kernel_rfl
theorem lookup_map_new : typeLookup (.type "map") "__new__" = pure (some (.builtin "map.__new__")) := by rw [typeLookup_type, builtinLookup_eq_fast]; kernel_rfl
theorem slot_map_init : Slot "map" "__init__" "object.__init__" :=
  .of (owner := "object") (n := "__init__") (by rw [typeLookup_type, builtinLookup_eq_fast]; kernel_rfl) (by decide +kernel) (by decide +kernel) (by decide +kernel)
    (by first | exact .inl (by decide +kernel) | exact .inr (by decide +kernel)) (by rw [isSubtype_type]; kernel_rfl)
theorem slot_map_next : Slot "map" "__next__" "map.__next__" :=
  .of (owner := "map") (n := "__next__") (by rw [typeLookup_type, builtinLookup_eq_fast]; kernel_rfl) (by decide +kernel) (by decide +kernel) (by decide +kernel)
    (by first | exact .inl (by decide +kernel) | exact .inr (by decide +kernel)) (by rw [isSubtype_type]; kernel_rfl)
theorem slot_map_iter : Slot "map" "__iter__" "map.__iter__" :=
  .of (owner := "map") (n := "__iter__") (by rw [typeLookup_type, builtinLookup_eq_fast]; kernel_rfl) (by decide +kernel) (by decide +kernel) (by decide +kernel)
    (by first | exact .inl (by decide +kernel) | exact .inr (by decide +kernel)) (by rw [isSubtype_type]; kernel_rfl)
theorem called_map : TypeCalled "map" "map.__new__" "object.__init__" :=
  ⟨by decide +kernel, by decide +kernel, ⟨_, _, mro_map⟩, madeBy_type mro_map lookup_map_new (by decide +kernel), by decide +kernel, by rw [isSubtype_type]; kernel_rfl, slot_map_init⟩
theorem typeCall_map_2 (a b : Value) : checkTypeCall "map" ⟨[a, b], []⟩ = pure () := by kernel_rfl
theorem newCall_map_2 (a b : Value) : checkBuiltinCall "map.__new__" ⟨[.type "map", a, b], []⟩ = pure () := by kernel_rfl
theorem entry_map_new : entryFor table "map.__new__" = some Builtin.«map.__new__» := entryFor_of_tree (by kernel_rfl)
theorem entry_map_next : entryFor table "map.__next__" = some Builtin.«map.__next__» := entryFor_of_tree (by kernel_rfl)
theorem args_map_next (a : Value) : argsOk "map.__next__" ⟨[a], []⟩ := by unfold argsOk; kernel_rfl
theorem map_no_len : typeLookup (.type "map") "__len__" = pure none := by rw [typeLookup_type, builtinLookup_eq_fast]; kernel_rfl
theorem map_no_hint : typeLookup (.type "map") "__length_hint__" = pure none := by rw [typeLookup_type, builtinLookup_eq_fast]; kernel_rfl
section
variable {D : Wd} {n : Nat} {env : Env} {L : Addr} {ns : Kinds} {cl : List (PySem.Str × Addr)} {W W' W₁ W₂ W₃ : Wld} {s : Shared}
noncomputable def iterOb (l : Addr) (i : Nat) : Obj := { cls := .type "list_iterator", data := .fields #[.ref l, .int i 0] }
noncomputable def mapOb (t : Addr) (f : Value) : Obj := { cls := .type "map", data := .fields #[.ref t, f] }
noncomputable def tupOb (it : Addr) : Obj := { cls := .type "tuple", data := .seq #[.ref it] }
theorem call_map {prog : Program} {w : World} {A : Around} {E : Value → Shared → Prop} {f : Value} {l : Addr} {items : Array Value} {Q : Value → Shared → Prop} (hl : s.heap.IsList l items)
    (h : Q (.ref (s.heap.objs.size + 2)) { s with heap := ((s.heap.push (iterOb l 0)).push (tupOb s.heap.objs.size)).push (mapOb (s.heap.objs.size + 1) f) }) :
    wpAny (model prog w) A (call (.type "map") [f, .ref l]) Q E s := by
  refine callType_new called_map (by decide) (typeCall_map_2 _ _) (newCall_map_2 _ _) (fun obj => ?_) entry_map_new (S := fun _ R s' => s' = s ∧ R (.ok (.ret (.ref (s.heap.objs.size + 2)))) { s with heap := ((s.heap.push (iterOb l 0)).push (tupOb s.heap.objs.size)).push (mapOb (s.heap.objs.size + 1) f) }) ?_ ⟨rfl, ?_⟩
  · unfold argsOk; kernel_rfl
  · refine .of_wp fun prog w A R s' h => ?_
    obtain ⟨rfl, h⟩ := h
    obtain ⟨hp, g, d, tk, os⟩ := s'
    have hsub : isSubtype (.type "map") (.type "map") = pure true := called_map.sub
    unfold Builtin.«map.__new__» Builtin.SmallTypes.newClass Builtin.SmallTypes.iterAll
    repeat (first | (with_reducible refine wpAny_pyIter_list (by assumption) ?_) | wp_step)
    refine ⟨_, rfl, ?_⟩
    simp only [Heap.size_push]
    exact h
  · exact ⟨⟨_, Heap.get?_push_at (by rw [Heap.size_push, Heap.size_push]) rfl, rfl⟩, h⟩
end
end

section
open PySem PySem.W PyProof.Rows PySem.Calls PyProof.V
section
variable {prog : Program} {w : World} {A : Around} {E : Value → Shared → Prop} {s : Shared}
theorem special_listiter {it l : Addr} {i : Nat} {items : Array Value} {x : Value} {Q : Option Value → Shared → Prop} (hit : s.heap.IsListIter it l i) (hl : s.heap.IsList l items) (hx : items[i]? = some x)
    (hQ : ∀ h', h'.IsListIter it l (i + 1) → Heap.SameBut it s.heap h' → (s.heap.get? it = some (iterOb l i) → h'.get? it = some (iterOb l (i + 1))) → Q (some x) { s with heap := h' }) : wpAny (model prog w) A (callSpecial? (.ref it) (Str.ofString "__next__")) Q E s := by
  obtain ⟨o, ho, hc, hd⟩ := id hit
  obtain ⟨ol, hol, _, nl, hdl⟩ := hl
  refine wpAny_callSpecial?_slot (name := Str.ofString "__next__") hit.typeIs slot_listiter_next
    (wpAny_call_entry slot_listiter_next hit.typeIs entry_listiter_next ?_ (args_listiter_next _))
  show wpAny _ _ (field (.ref it) 0 >>= _) _ _ s
  refine wpAny_bind (wpAny_field ho hd (x := .ref l) rfl ?_)
  show wpAny _ _ (if (Value.ref l == Value.none) = true then _ else _) _ _ s
  rw [if_neg (show ¬ ((Value.ref l == Value.none) = true) from Bool.false_ne_true)]
  show wpAny _ _ (field (.ref it) 1 >>= _) _ _ s
  refine wpAny_bind (wpAny_field ho hd (x := .int i 0) rfl ?_)
  show wpAny _ _ (seqItems? (.ref l) >>= _) _ _ s
  refine wpAny_bind (wpAny_seqItems hol hdl ?_)
  simp only [Int.toNat_natCast, hx]
  refine wpAny_bind (wpAny_setField ho hd (by simp) (wpAny_pure ⟨x, rfl, (hQ _ ?_ (Heap.SameBut.update ..) fun e => ?_)⟩))
  rotate_left
  · rw [Heap.get?_update_self _ e rfl]
    simp [iterOb, Obj.mapFields, rawInt]
  exact ⟨_, Heap.get?_update_self _ ho (Obj.isFreed_of_fields (Obj.data_mapFields hd _)), (Obj.cls_mapFields ..).trans hc, by
    rw [Obj.data_mapFields hd]; simp [rawInt]⟩
theorem special_listiter_end {it l : Addr} {i : Nat} {items : Array Value} {Q : Option Value → Shared → Prop} (hh : A.handled = none) (hit : s.heap.IsListIter it l i) (hl : s.heap.IsList l items) (hx : items[i]? = none)
    (hQ : ∀ h' e, h'.get? e = some { cls := .type "StopIteration", data := .fields #[.ref (e - 1), .none, .none, .none, .bool false, .none, .none] } ∨ True → Shared.TypeIs { s with heap := h' } (.ref e) "StopIteration" → Heap.ExtBut it s.heap h' → E (.ref e) { s with heap := h' }) : wpAny (model prog w) A (callSpecial? (.ref it) (Str.ofString "__next__")) Q E s := by
  obtain ⟨o, ho, hc, hd⟩ := id hit
  obtain ⟨ol, hol, _, nl, hdl⟩ := hl
  refine wpAny_callSpecial?_slot (name := Str.ofString "__next__") hit.typeIs slot_listiter_next
    (wpAny_call_entry slot_listiter_next hit.typeIs entry_listiter_next ?_ (args_listiter_next _))
  show wpAny _ _ (field (.ref it) 0 >>= _) _ _ s
  refine wpAny_bind (wpAny_field ho hd (x := .ref l) rfl ?_)
  show wpAny _ _ (if (Value.ref l == Value.none) = true then _ else _) _ _ s
  rw [if_neg (show ¬ ((Value.ref l == Value.none) = true) from Bool.false_ne_true)]
  show wpAny _ _ (field (.ref it) 1 >>= _) _ _ s
  refine wpAny_bind (wpAny_field ho hd (x := .int i 0) rfl ?_)
  show wpAny _ _ (seqItems? (.ref l) >>= _) _ _ s
  refine wpAny_bind (wpAny_seqItems hol hdl ?_)
  simp only [Int.toNat_natCast, hx]
  refine wpAny_bind (wpAny_rule (wpAny_bind (wpAny_setField ho hd (by simp) ?_)))
  show wpAny _ _ (newExc (.type "StopIteration") [] >>= _) _ _ _
  refine wpAny_bind ?_
  simp only [newExc, newTuple]
  refine wpAny_bind (wpAny_newObj_type ?_ (by size_fits))
  refine wpAny_bind (m := firstArgMember _ _) (wpAny_of_eq (a := Value.none) (by first | rfl | (simp only [firstArgMember]; rfl)) ?_)
  refine wpAny_newObj_type ?_ (by size_fits)
  simp only [raiseNew]
  refine wpAny_bind (wpAny_handled ?_)
  rw [show A.in1.handled = none from hh]
  refine wpAny_bind (wpAny_pure (wpAny_throw ?_))
  exact hQ _ _ (.inr trivial) ⟨_, Heap.get?_push_size _ rfl, rfl⟩ (((Heap.SameBut.update ..).extBut.push _).push _)
end
end

section
open PySem PySem.W PyProof.Rows PySem.Calls PyProof.V
section
variable {prog : Program} {w : World} {A : Around} {E : Value → Shared → Prop} {s : Shared}
theorem pyNext_map_item {m t it l : Addr} {f : Value} {i : Nat} {items : Array Value} {x : Value} {Q : Option Value → Shared → Prop} (hm : s.heap.get? m = some (mapOb t f)) (ht : s.heap.get? t = some (tupOb it)) (hit : s.heap.IsListIter it l i) (hl : s.heap.IsList l items) (hx : items[i]? = some x) (htm : t ≠ it) (hmi : m ≠ it)
    (h : ∀ h' E', (s.heap.get? it = some (iterOb l i) → h'.get? it = some (iterOb l (i + 1))) → Heap.SameBut it s.heap h' → wpAny (model prog w) A.in1 (call f [x]) (fun v s' => Q (some v) s') E' { s with heap := h' }) : wpAny (model prog w) A (pyNext (.ref m)) Q E s := by
  have hT : s.TypeIs (.ref m) "map" := ⟨_, hm, rfl⟩
  unfold pyNext
  refine wpAny_bind (wpAny_attempt (wpAny_callSpecial?_slot (name := Str.ofString "__next__") hT slot_map_next (wpAny_call_entry slot_map_next hT entry_map_next ?_ (args_map_next _))))
  show wpAny _ _ (field (.ref m) 0 >>= _) _ _ s
  refine wpAny_bind (wpAny_field hm rfl (x := .ref t) rfl ?_)
  refine wpAny_bind (wpAny_seqItems ht rfl ?_)
  dsimp only
  have e : ∀ (F' : Value → Array Value → Sem (ForInStep (Array Value))) (b : Array Value), forIn #[Value.ref it] b F' = forIn [Value.ref it] b F' := by
    intro F' b
    first
      | exact (Array.forIn_toList ..).symm
      | simp
  rw [e, List.forIn_cons]
  refine wpAny_bind (wpAny_bind (wpAny_bind (wpAny_holding ?_)))
  unfold Builtin.SmallTypes.nextOf
  refine wpAny_bind (special_listiter hit hl hx fun h' _ hs hit' => ?_)
  refine wpAny_pure (wpAny_pure ?_)
  dsimp only
  rw [List.forIn_nil]
  refine wpAny_pure ?_
  have hm' : h'.get? m = some (mapOb t f) := (hs.2 m hmi).trans hm
  refine wpAny_bind (wpAny_field (s := { s with heap := h' }) hm' rfl (x := f) rfl ?_)
  refine wpAny_bind (wpAny_holding ?_)
  refine wpAny_mono (h h' _ hit' hs) (fun v s' hq => ?_) fun _ _ z => z
  refine wpAny_bind (wpAny_letGo ?_)
  exact wpAny_pure ⟨v, rfl, wpAny_pure hq⟩
theorem pyNext_map_end {m t it l : Addr} {f : Value} {i : Nat} {items : Array Value} {Q : Option Value → Shared → Prop} (hh : A.handled = none) (hm : s.heap.get? m = some (mapOb t f)) (ht : s.heap.get? t = some (tupOb it)) (hit : s.heap.IsListIter it l i) (hl : s.heap.IsList l items) (hx : items[i]? = none)
    (h : ∀ h', Heap.ExtBut it s.heap h' → Q none { s with heap := h' }) : wpAny (model prog w) A (pyNext (.ref m)) Q E s := by
  have hT : s.TypeIs (.ref m) "map" := ⟨_, hm, rfl⟩
  unfold pyNext
  refine wpAny_bind (wpAny_attempt (wpAny_callSpecial?_slot (name := Str.ofString "__next__") hT slot_map_next (wpAny_call_entry slot_map_next hT entry_map_next ?_ (args_map_next _))))
  show wpAny _ _ (field (.ref m) 0 >>= _) _ _ s
  refine wpAny_bind (wpAny_field hm rfl (x := .ref t) rfl ?_)
  refine wpAny_bind (wpAny_seqItems ht rfl ?_)
  dsimp only
  have e : ∀ (F' : Value → Array Value → Sem (ForInStep (Array Value))) (b : Array Value), forIn #[Value.ref it] b F' = forIn [Value.ref it] b F' := by
    intro F' b
    first
      | exact (Array.forIn_toList ..).symm
      | simp
  rw [e, List.forIn_cons]
  refine wpAny_bind (wpAny_bind (wpAny_bind (wpAny_holding ?_)))
  unfold Builtin.SmallTypes.nextOf
  refine wpAny_bind (special_listiter_end hh hit hl hx fun h' e _ hTe he => ?_)
  show wpAny _ _ (isInstance (.ref e) (.type "StopIteration") >>= _) _ _ _
  refine wpAny_bind (wpAny_isInstance (T := "StopIteration") (b := true) hTe isSubtype_stop ?_)
  exact wpAny_pure (h h' he)
end
end

section
open PySem PySem.W PyProof.Rows PySem.Calls PyProof.V
section
variable {D : Wd} {n : Nat} {W W' : Wld} {s : Shared}
noncomputable def mapW (m it l t : Addr) (f : Value) (i : Nat) : Wld := [(m, .raw (mapOb t f)), (it, .raw (iterOb l i))]
theorem map_walk {G₀ : Led} {m it l t : Addr} {f : Value} {ps : List PV} {out : PV → PV} (hl : Rep G₀ (.ref l) (.list ps)) (ht : G₀ t (tupOb it)) (hmi : m ≠ it) (hti : t ≠ it) (hf : ∀ p ∈ ps, CallR D n [] f [p] [] (out p) []) :
    WalkIt D (n + 1) G₀ m (mapW m it l t f) [] (ps.map out) where
  next := fun A Fo G W s i Q E rm c hG hi hn hd => by
    have r := hl.mono hG
    obtain ⟨vs, hls, rs⟩ := r.isList c
    have htt : s.heap.get? t = some (tupOb it) := c.inn _ _ (hG _ _ ht)
    have hm : s.heap.get? m = some (mapOb t f) := c.wok _ (.head _)
    have hit' : s.heap.get? it = some (iterOb l i) := c.wok (it, .raw (iterOb l i)) (.tail _ (.head _))
    have hit : s.heap.IsListIter it l i := ⟨_, hit', rfl, rfl⟩
    cases hp : ps[i]? with
    | some p =>
      obtain ⟨v, hv, rv⟩ := rs.get i p hp
      refine pyNext_map_item hm htt hit hls (x := v) (by simpa using hv) hti hmi fun h' E' hi' hs => ?_
      have hi2 := hi' hit'
      have c₁ : Core D Fo G ([(m, .raw (mapOb t f))] ++ (it, .raw (iterOb l i)) :: W) s := c
      have c₂ : Core D Fo G ([(m, .raw (mapOb t f))] ++ (it, .raw (iterOb l (i + 1))) :: W) { s with heap := h', toks := s.toks } := c₁.put hs hi2
      have hpm : p ∈ ps := List.mem_of_getElem? hp
      refine (CallR.lift (hf p hpm)) A.in1 Fo G { s with heap := h' } [v] [] _ E' rm.in1 c₂ (.cons rv .nil) rfl .nil fun G' v' s' l' c' r' => ?_
      exact hn (out p) (by rw [List.getElem?_map, hp]; rfl) G' v' s' l' c' r'
    | none =>
      obtain hv : vs[i]? = none := by
        rw [List.getElem?_eq_none_iff, rs.length]
        exact List.getElem?_eq_none_iff.mp hp
      refine pyNext_map_end rm.handled hm htt hit hls (by simpa using hv) fun h' he => ?_
      refine hd (by rw [List.getElem?_map, hp]; rfl) G _ Led.le.rfl ?_
      have c₁ : Core D Fo G ([(m, .raw (mapOb t f))] ++ (it, .raw (iterOb l i)) :: W) s := c
      have c₂ := c₁.off (t := s.toks) he
      exact c₂.pop
end
end

section
open PySem PySem.W PyProof.Rows PySem.Calls PyProof.V
theorem entry_map_iter : entryFor table "map.__iter__" = some Builtin.«dict_keyiterator.__iter__» :=
  entryFor_alias (id' := "dict_keyiterator.__iter__") (by kernel_rfl) rfl (by decide +kernel) (by kernel_rfl)
theorem args_map_iter (a : Value) : argsOk "map.__iter__" ⟨[a], []⟩ := by unfold argsOk; kernel_rfl
section
variable {D : Wd} {n : Nat} {W W' : Wld} {s : Shared}
theorem map_iterOf {G₀ : Led} {m it l t : Addr} {f : Value} : IterOf D n G₀ m m (.type "map") (mapW m it l t f 0) (mapW m it l t f 0) where
  ty := fun A Fo G W s Q E c q => by
    have hm : s.heap.get? m = some (mapOb t f) := c.wok _ (.head _)
    exact wpAny_typeOf ⟨_, hm, rfl⟩ q
  len := fun A Fo G W s Q E c q => by
    have hm : s.heap.get? m = some (mapOb t f) := c.wok _ (.head _)
    exact wpAny_specialOf ⟨_, hm, rfl⟩ map_no_len q
  hint := fun A Fo G W s Q E c q => by
    have hm : s.heap.get? m = some (mapOb t f) := c.wok _ (.head _)
    exact wpAny_specialOf ⟨_, hm, rfl⟩ map_no_hint q
  iter := fun A Fo G W s Q E rm c hG q => by
    have hm : s.heap.get? m = some (mapOb t f) := c.wok _ (.head _)
    have hT : s.TypeIs (.ref m) "map" := ⟨_, hm, rfl⟩
    refine wpAny_pyIter_slot hT slot_map_iter (wpAny_call_entry slot_map_iter hT entry_map_iter ?_ (args_map_iter _))
    show wpAny _ _ (ret (.ref m)) _ _ s
    exact wpAny_pure ⟨_, rfl, "map", _, hT, slot_map_next.lookup, q G s Led.le.rfl c⟩
  nl := by decide
  nt := by decide
end
end

section
open PySem PySem.W PyProof.Rows PySem.Calls PyProof.V
section
variable {D : Wd} {n : Nat} {W W' : Wld} {s : Shared}
theorem code_tuple_newR {G₀ : Led} {X I : Addr} {T : String} {W₀ : Wld} {Wi : Nat → Wld} {Wend : Wld} {ps : List PV} (Y : IterOf D n G₀ X I (.type T) W₀ (Wi 0)) (Z : WalkIt D n G₀ I Wi Wend ps) (hz : ps.length ≤ 100000) (hnt : (T == "tuple") = false) (A : Around) (Fo G : Led) (W : Wld) (s : Shared) (Q₁ : Value → Shared → Prop) (E : Value → Shared → Prop)
    (rm : Room A (n + 4)) (c : Core D Fo G (W₀ ++ W) s) (hG : G₀.le G) (hX : s.TypeIs (.ref X) T)
    (h : ∀ G' v s', G.le G' → Core D Fo G' (Wend ++ W) s' → Rep G' v (.tup ps) → s'.TypeIs v "tuple" → Q₁ v s') :
    codeAny (model D.prog D.w) A (.call (.builtin "tuple.__new__") ⟨[.type "tuple", .ref X], []⟩) (wants Q₁ E) s := by
  refine codeAny_of_tree ?_
  show wpAny _ A.in1 (do checkBuiltinCall "tuple.__new__" ⟨[.type "tuple", .ref X], []⟩; again (.builtin "tuple.__new__" ⟨[.type "tuple", .ref X], []⟩)) _ _ s
  refine wpAny_bind (wpAny_of_eq (F.newCall_tuple_1 _) (wpAny_pure ⟨plainId_quiet F.plain_tuple_new _, codeAny_builtin F.entry_tuple_new ?_⟩))
  rw [Around.under_plainId F.plain_tuple_new _]
  have hsub := sub_tuple_self
  have hinit := init_tuple_lookup
  have hmh := madeHere_tuple
  have hne : (Value.type T == Value.type "tuple") = false := by simpa using hnt
  obtain ⟨ox, hox, _⟩ := id hX
  wp_walk using wpAny_typeOf hX, collectR Y Z hz _ Fo G W s _ _ (rm.in1.mono (by lia)) c hG ⟨ox, hox⟩
  intro G' vs s' l c' rs
  refine wpAny_bind (wpAny_pure ?_)
  show wpAny _ _ (Builtin.Tuple.tupleExact vs.toArray >>= fun v => ret v) _ _ _
  unfold Builtin.Tuple.tupleExact
  refine wpAny_bind (wpAny_newObj_type ?_ (by show vs.toArray.size ≤ sizeLine; rw [List.size_toArray, rs.length, sizeLine_eq]; lia))
  refine wpAny_pure ?_
  exact h _ _ _ (l.trans Led.le_add) (c'.made (ob := { cls := .type "tuple", data := .seq vs.toArray }) rfl) (.tup (.inr ⟨rfl, rfl⟩) rfl rfl (rs.mono Led.le_add)) ⟨_, Heap.get?_push_size _ rfl, rfl⟩
theorem call_tupleR {G₀ : Led} {X I : Addr} {T : String} {W₀ : Wld} {Wi : Nat → Wld} {Wend : Wld} {ps : List PV} (Y : IterOf D n G₀ X I (.type T) W₀ (Wi 0)) (Z : WalkIt D n G₀ I Wi Wend ps) (hz : ps.length ≤ 100000) (hnt : (T == "tuple") = false) (A : Around) (Fo G : Led) (W : Wld) (s : Shared) (Q : Value → Shared → Prop) (E : Value → Shared → Prop)
    (rm : Room A (n + 5)) (c : Core D Fo G (W₀ ++ W) s) (hG : G₀.le G) (hX : s.TypeIs (.ref X) T)
    (h : ∀ G' v s', G.le G' → Core D Fo G' (Wend ++ W) s' → Rep G' v (.tup ps) → Q v s') : wpAny (model D.prog D.w) A (call (.type "tuple") [.ref X]) Q E s := by
  refine callType_codes (Q₁ := fun obj s₁ => s₁.TypeIs obj "tuple" ∧ Q obj s₁) F.called_tuple (F.typeCall_tuple_1 _) F.entry_object_init
    (code_tuple_newR Y Z hz hnt _ Fo G W s _ _ rm.in1 c hG hX fun G' v s' l c' r ht => ⟨ht, h G' v s' l c' r⟩) fun obj s₁ h₁ => ?_
  exact ⟨h₁.1, F.args_object_init_2 obj _, object_init_meets F.called_tuple.init.lookup F.called_tuple.made (by decide) D.prog D.w A.in1 _ s₁ ⟨h₁.1, rfl, h₁.2⟩⟩
end
end

section
open PySem PySem.W PyProof.Rows PySem.Calls PyProof.V
section
variable {D : Wd} {n : Nat} {env : Env} {W W' W₁ W₂ W₃ W₄ : Wld} {s : Shared}
theorem EvalR.tupleMap {p1 p2 pos1 pos2 : Pos} {ef el : Expr} {f : Value} {ps : List PV} {out : PV → PV} {a b : PySem.Str} (h1 : EvalR D (n + 8) env W (.Name a p1) (.con (.type "tuple")) W₁) (h2 : EvalR D (n + 8) env W₁ (.Name b p2) (.con (.type "map")) W₂) (h3 : EvalsR D (n + 8) env W₂ [ef, el] [.con f, .list ps] W₃) (hf : ∀ p ∈ ps, CallR D n [] f [p] [] (out p) []) (hz : ps.length ≤ 100000)
    (hst : starEach [.Call (.Name b p2) [ef, el] [] pos2] env = [(false, eval (.Call (.Name b p2) [ef, el] [] pos2) env)]) :
    EvalR D (n + 8) env W (.Call (.Name a p1) [.Call (.Name b p2) [ef, el] [] pos2] [] pos1) (.tup (ps.map out)) W₃ := by
  intro A Fo G s Q E rm c k
  refine wpAny_Call_NameR (h1 A Fo G s _ E rm c fun G₁ fv s₁ l₁ c₁ rf => ?_)
  obtain rfl := Rep.con_v rf
  have hno : (backTo pos1 (starEach [.Call (.Name b p2) [ef, el] [] pos2] env)).any (·.1) = false := by rw [hst]; rfl
  refine callWith_flat (fun a e => by cases e) hno (evalArgs_of hno ?_)
  refine wpAny_items_cons ?_ (by rw [hst]; rfl)
  refine wpAny_Call_NameR (h2 A Fo G₁ s₁ _ E rm c₁ fun G₂ fv s₂ l₂ c₂ rf => ?_)
  obtain rfl := Rep.con_v rf
  refine callWith_flat (fun a e => by cases e) (h3.noStar (pos := pos2)).1 (evalArgs_of (h3.noStar (pos := pos2)).1 (h3.wp A Fo G₂ s₂ _ E rm c₂ fun G₃ vs s₃ l₃ c₃ rs => ?_))
  obtain ⟨v1, v2, rfl, r1, r2⟩ := RepAll.two rs; obtain rfl := r1.con_v
  obtain ⟨l, rfl⟩ := r2.list_ref
  obtain ⟨us, hl, rus⟩ := r2.isList c₃
  refine call_map hl ?_
  have d₁ : Core D Fo G₃ ((s₃.heap.objs.size, .raw (iterOb l 0)) :: W₃) _ := c₃.newRaw (iterOb l 0) rfl
  have d₂ := d₁.made (ob := tupOb s₃.heap.objs.size) rfl
  have d₃ := d₂.newRaw (mapOb (s₃.heap.objs.size + 1) f) rfl
  refine wpAny_items_nil ?_
  have e1 : (s₃.heap.push (iterOb l 0)).objs.size = s₃.heap.objs.size + 1 := Heap.size_push ..
  have e2 : ((s₃.heap.push (iterOb l 0)).push (tupOb s₃.heap.objs.size)).objs.size = s₃.heap.objs.size + 2 := by rw [Heap.size_push, Heap.size_push]
  have d₄ : Core D Fo (G₃.add (s₃.heap.objs.size + 1) (tupOb s₃.heap.objs.size)) (mapW (s₃.heap.objs.size + 2) s₃.heap.objs.size l (s₃.heap.objs.size + 1) f 0 ++ W₃) { s₃ with heap := ((s₃.heap.push (iterOb l 0)).push (tupOb s₃.heap.objs.size)).push (mapOb (s₃.heap.objs.size + 1) f) } := by
    have := d₃
    simp only [e1, e2] at this
    exact this
  have hm : ({ s₃ with heap := ((s₃.heap.push (iterOb l 0)).push (tupOb s₃.heap.objs.size)).push (mapOb (s₃.heap.objs.size + 1) f) } : Shared).TypeIs (.ref (s₃.heap.objs.size + 2)) "map" := ⟨_, d₄.wok _ (.head _), rfl⟩
  refine call_tupleR (n := n + 3) (G₀ := G₃.add (s₃.heap.objs.size + 1) (tupOb s₃.heap.objs.size)) (Wi := mapW (s₃.heap.objs.size + 2) s₃.heap.objs.size l (s₃.heap.objs.size + 1) f) map_iterOf (map_walk (n := n + 2) (r2.mono Led.le_add) (.inr ⟨rfl, rfl⟩) (Nat.ne_of_gt (Nat.lt_add_of_pos_right (by decide))) (Nat.ne_of_gt (Nat.lt_succ_self _)) fun p hp => (hf p hp).mono (by lia)) (by rw [List.length_map]; exact hz) rfl A Fo _ W₃ _ Q E (rm.mono (by lia)) d₄ Led.le.rfl hm fun G₄ v s₄ l₄ c₄ r₄ => ?_
  exact k G₄ v s₄ (((l₁.trans l₂).trans l₃).trans (Led.le_add.trans l₄)) c₄ r₄
end
end

section
open PySem PySem.W PyProof.Rows PySem.Calls PyProof.V
theorem plain_eq_loop' : plainId "list.__eq__.loop" = true := by decide +kernel
theorem entry_eq_loop' : entryFor table "list.__eq__.loop" = some Builtin.«list.__eq__.loop» := entryFor_of_fast (by kernel_rfl)
structure PartAt (vs us : Array Value) (d : Nat) (x y : PySem.Str) : Prop where
  pre : ∀ i < d, ∃ z t u, vs[i]? = some (.str z t) ∧ us[i]? = some (.str z u)
  l : ∃ t, vs[d]? = some (.str x t)
  r : ∃ t, us[d]? = some (.str y t)
  ne : x ≠ y
theorem lt_loop (l b : Addr) (items items2 : Array Value) (n n2 : Nat) (dd dd2 : Option Addr) (sl sl2 : Array (Option Value)) (d : Nat) (x y : PySem.Str) (hp : PartAt items items2 d x y) (k : Nat) :
    ∀ i : Nat, d - i = k → i ≤ d → Meets (Builtin.«list.__eq__.loop» ⟨[.ref l, .ref b, rawInt i, rawInt 0], []⟩)
      (fun A R s => s.heap.get? l = some { cls := .type "list", dict := dd, data := .seq items n, slots := sl } ∧ s.heap.get? b = some { cls := .type "list", dict := dd2, data := .seq items2 n2, slots := sl2 } ∧
        R (.ok (.ret (.bool (decide (x.cps.toList < y.cps.toList))))) s) := by
  induction k with
  | zero =>
    intro i hk hi prog w A R s h
    obtain ⟨hp', g, dr, tk, os⟩ := s; obtain ⟨hl, hb, h⟩ := h
    have e : i = d := by omega
    subst e
    obtain ⟨t, h1⟩ := hp.l
    obtain ⟨u, h2⟩ := hp.r
    have hi1 : items[((i : Nat) : Int).toNat]? = some (.str x t) := h1
    have hi2 : items2[((i : Nat) : Int).toNat]? = some (.str y u) := h2
    wp_walk using wpAny_loadPart' hl, wpAny_loadPart' hb
    rw [hi1, hi2]
    refine wpAny_bind (wpAny_eqBool_str ?_)
    rw [decide_eq_false hp.ne]
    refine wpAny_bind (PySem.wpAny_listItems hl rfl ?_)
    refine wpAny_bind (PySem.wpAny_listItems hb rfl ?_)
    rw [hi1, hi2]
    refine wpAny_bind (m := compareOp .Lt (.str x t) (.str y u)) (P.lt_str ?_)
    exact wpAny_pure h
  | succ k ih =>
    intro i hk hi prog w A R s h
    obtain ⟨hp', g, dr, tk, os⟩ := s; obtain ⟨hl, hb, h⟩ := h
    obtain ⟨z, t, u, h1, h2⟩ := hp.pre i (by omega)
    have hi1 : items[((i : Nat) : Int).toNat]? = some (.str z t) := h1
    have hi2 : items2[((i : Nat) : Int).toNat]? = some (.str z u) := h2
    have hc : ((i : Int) + 1) = ((i + 1 : Nat) : Int) := by push_cast; rfl
    wp_walk using wpAny_loadPart' hl, wpAny_loadPart' hb
    rw [hi1, hi2]
    refine wpAny_bind (wpAny_eqBool_str ?_)
    rw [decide_eq_true rfl]
    wp_walk
    rw [hc]
    exact ⟨plainId_quiet plain_eq_loop' _, codeAny_builtin entry_eq_loop' (by
      rw [Around.under_plainId plain_eq_loop' _]
      exact ih (i + 1) (by omega) (by omega) prog w A R _ ⟨hl, hb, h⟩)⟩
theorem list_lt (l b : Addr) (items items2 : Array Value) (n n2 : Nat) (dd dd2 : Option Addr) (sl sl2 : Array (Option Value)) (d : Nat) (x y : PySem.Str) (hp : PartAt items items2 d x y) :
    Meets (Builtin.«list.__lt__» ⟨[.ref l, .ref b], []⟩)
      (fun A R s => s.heap.get? l = some { cls := .type "list", dict := dd, data := .seq items n, slots := sl } ∧ s.heap.get? b = some { cls := .type "list", dict := dd2, data := .seq items2 n2, slots := sl2 } ∧
        R (.ok (.ret (.bool (decide (x.cps.toList < y.cps.toList))))) s) := by
  intro prog w A R s h
  obtain ⟨hp', g, dr, tk, os⟩ := s; obtain ⟨hl, hb, h⟩ := h
  have f3 := AutoSeq1.sub_list_list
  wp_walk using wpAny_loadPart' hl, wpAny_loadPart' hb
  exact ⟨plainId_quiet plain_eq_loop' _, codeAny_builtin entry_eq_loop' (by
    rw [Around.under_plainId plain_eq_loop' _]
    exact lt_loop l b items items2 n n2 dd dd2 sl sl2 d x y hp _ 0 rfl (Nat.zero_le _) prog w A R _ ⟨hl, hb, by simpa using h⟩)⟩
theorem rc_lt {prog : Program} {w : World} {A : Around} {E : Value → Shared → Prop} {s : Shared} {l b : Addr} {items items2 : Array Value} {d : Nat} {x y : PySem.Str} {Q : Value → Shared → Prop} (hl : s.heap.IsList l items) (hb : s.heap.IsList b items2) (hp : PartAt items items2 d x y) (hu : A.units < cLine)
    (h : Q (.bool (decide (x.cps.toList < y.cps.toList))) s) : wpAny (model prog w) A (richCompare .Lt (.ref l) (.ref b)) Q E s := by
  obtain ⟨o, ho, hc, n, hd⟩ := id hl
  obtain ⟨o2, ho2, hc2, n2, hd2⟩ := id hb
  obtain ⟨c, dd, dt, sl⟩ := o
  obtain ⟨c2, dd2, dt2, sl2⟩ := o2
  simp only at hc hd hc2 hd2
  subst hc hd hc2 hd2
  exact richCompare_meets_room (op := .Lt) hl.typeIs hb.typeIs F.slot_list_lt F.entry_list_lt (F.args_list_lt_2 _ _) (list_lt l b items items2 n n2 dd dd2 sl sl2 d x y hp) ⟨ho, ho2, ⟨by simp, h⟩⟩ hu
section
variable {prog : Program} {w : World} {A : Around} {E : Value → Shared → Prop} {s : Shared}
theorem min_two {l : Addr} {v₀ v₁ : Value} {bb : Bool} {Q : Value → Shared → Prop} (hh : A.handled = none) (hl : s.heap.IsList l #[v₀, v₁])
    (hc : ∀ (s' : Shared) (Q' : Value → Shared → Prop) (E' : Value → Shared → Prop), (∀ b o, s.heap.get? b = some o → s'.heap.get? b = some o) → Q' (.bool bb) s' → wpAny (model prog w) A.in1 (richCompare .Lt v₁ v₀) Q' E' s')
    (h : ∀ h', (∀ b o, s.heap.get? b = some o → h'.get? b = some o) → Q (if bb = true then v₁ else v₀) { s with heap := h' }) : wpAny (model prog w) A (call (.builtin "min") [.ref l]) Q E s := by
  have hname : (toString "min" ++ toString ".loop" : String) = "min.loop" := by decide
  refine call_function_tree F.kind_min F.plain_min F.entry_min (F.args_min1 _) ?_
  show wpAny _ A.in1 (Builtin.Builtins.bindParams "min" ["key", "default"] 0 ⟨[], []⟩ >>= _) _ _ s
  refine wpAny_bind (wpAny_of_eq (show Builtin.Builtins.bindParams "min" ["key", "default"] 0 ⟨[], []⟩ = pure [none, none] from rfl) ?_)
  refine wpAny_bind (wpAny_pure ?_)
  refine wpAny_bind (wpAny_pyIter_list hl ?_)
  refine wpAny_bind (wpAny_newObj_type ?_)
  rw [hname]
  generalize hI : s.heap.objs.size = I
  have hk0 : ∀ b o, s.heap.get? b = some o → (s.heap.push { cls := .type "list_iterator", data := .fields #[.ref l, .int 0 0] }).get? b = some o := fun b o e => Heap.get?_push_of_some _ e
  have hIt0 : (s.heap.push { cls := .type "list_iterator", data := .fields #[.ref l, .int 0 0] }).IsListIter I l 0 := ⟨_, by rw [← hI]; exact Heap.get?_push_size _ rfl, rfl, rfl⟩
  have hnI : ∀ o, s.heap.get? I ≠ some o := fun o e => Nat.lt_irrefl _ (hI ▸ Heap.lt_size e)
  have hsz : (s.heap.push { cls := .type "list_iterator", data := .fields #[.ref l, .int 0 0] }).objs.size = I + 1 := by rw [Heap.size_push, hI]
  generalize s.heap.push { cls := .type "list_iterator", data := .fields #[.ref l, .int 0 0] } = hp at hk0 hIt0 hsz ⊢
  rw [hsz]
  generalize hS : I + 1 = S at hsz ⊢
  have hSI : S ≠ I := by omega
  have hIs : I ≠ S := fun e => hSI e.symm
  have hnS : ∀ o, s.heap.get? S ≠ some o := fun o e => absurd (Heap.lt_size e) (Nat.not_lt.mpr (by rw [hI, ← hS]; exact Nat.le_succ _))
  have hpS : (hp.push { cls := .type "list", data := .seq ([] : List Value).toArray }).get? S = some { cls := .type "list", data := .seq ([] : List Value).toArray } := by rw [← hsz]; exact Heap.get?_push_size _ rfl
  have hk1 : ∀ b o, s.heap.get? b = some o → (hp.push { cls := .type "list", data := .seq ([] : List Value).toArray }).get? b = some o := fun b o e => Heap.get?_push_of_some _ (hk0 b o e)
  have hIt1 : (hp.push { cls := .type "list", data := .seq ([] : List Value).toArray }).IsListIter I l 0 := hIt0.at fun o e => Heap.get?_push_of_some _ e
  generalize hp.push { cls := .type "list", data := .seq ([] : List Value).toArray } = h1 at hpS hk1 hIt1 ⊢
  have keep : ∀ {ha hb : Heap} {a : Addr}, (∀ o, s.heap.get? a ≠ some o) → (∀ b o, s.heap.get? b = some o → ha.get? b = some o) → Heap.SameBut a ha hb → ∀ b o, s.heap.get? b = some o → hb.get? b = some o :=
    fun {ha hb a} hn hk hs b o e => (hs.2 b (fun q => hn o (q ▸ e))).trans (hk b o e)
  -- the first item
  refine wpAny_pure ⟨plainId_quiet F.plain_min_loop _, codeAny_builtin F.entry_min_loop ?_⟩
  rw [Around.under_plainId F.plain_min_loop _]
  show wpAny _ A.in1 (seqItems? (.ref S) >>= _) _ _ _
  refine wpAny_bind (wpAny_seqItems hpS rfl ?_)
  show wpAny _ A.in1 (tryCatch (pyNext (.ref I)) _ >>= _) _ _ _
  refine wpAny_bind (wpAny_tryCatch (wpAny_pyNext_list_item hIt1 (Heap.IsList.at hl (hk1 _)) (x := v₀) rfl fun h2 hIt2 hs2 => ?_))
  have hk2 := keep hnI hk1 hs2
  have hS2 := (hs2.2 S hSI).trans hpS
  show wpAny _ A.in1 (updateSeq S (fun _ => #[v₀, v₀]) >>= _) _ _ _
  refine wpAny_bind ?_
  refine wpAny_updateSeq hS2 rfl ?_
  rw [hname]
  have hs3 : Heap.SameBut S h2 (h2.update S (Obj.mapSeq fun _ => #[v₀, v₀])) := Heap.SameBut.update ..
  have hk3 := keep hnS hk2 hs3
  obtain ⟨c3, hS3⟩ : ∃ c, (h2.update S (Obj.mapSeq fun _ => #[v₀, v₀])).get? S = some { cls := .type "list", data := .seq #[v₀, v₀] c } := ⟨_, Heap.get?_update_self _ hS2 rfl⟩
  have hIt3 : (h2.update S (Obj.mapSeq fun _ => #[v₀, v₀])).IsListIter I l 1 := hIt2.at fun o e => (hs3.2 I hIs).trans e
  generalize h2.update S (Obj.mapSeq fun _ => #[v₀, v₀]) = h3 at hk3 hS3 hIt3 ⊢
  -- the second
  refine wpAny_pure ⟨plainId_quiet F.plain_min_loop _, codeAny_builtin F.entry_min_loop ?_⟩
  rw [Around.under_plainId F.plain_min_loop _]
  show wpAny _ A.in1 (seqItems? (.ref S) >>= _) _ _ _
  refine wpAny_bind (wpAny_seqItems hS3 rfl ?_)
  show wpAny _ A.in1 (tryCatch (pyNext (.ref I)) _ >>= _) _ _ _
  refine wpAny_bind (wpAny_tryCatch (wpAny_pyNext_list_item hIt3 (Heap.IsList.at hl (hk3 _)) (x := v₁) rfl fun h4 hIt4 hs4 => ?_))
  have hk4 := keep hnI hk3 hs4
  have hS4 := (hs4.2 S hSI).trans hS3
  show wpAny _ A.in1 (tryCatch (holding [v₁, v₁] (richCompare .Lt v₁ v₀ >>= _)) _ >>= _) _ _ _
  refine wpAny_bind (wpAny_tryCatch (wpAny_holding (wpAny_bind (hc _ _ _ hk4 ?_))))
  refine wpAny_bind (wpAny_holding (wpAny_truthy_bool ?_))
  refine wpAny_bind (wpAny_letGo (wpAny_pure ?_))
  have fin : ∀ (h5 : Heap) (v : Value) (c : Nat), (∀ b o, s.heap.get? b = some o → h5.get? b = some o) → h5.get? S = some { cls := .type "list", data := .seq #[v, v] c } → h5.IsListIter I l 2 → v = (if bb = true then v₁ else v₀) →
      codeAny (model prog w) A (.builtin "min.loop" ⟨[.ref I, .none, .ref S], []⟩) (fun r s' => match r with | .ok (.ret v) => Q v s' | .ok _ => False | .error e => E e s') { s with heap := h5 } := by
    intro h5 v c hk5 hS5 hIt5 hv
    refine codeAny_builtin F.entry_min_loop ?_
    rw [Around.under_plainId F.plain_min_loop _]
    show wpAny _ A.in1 (seqItems? (.ref S) >>= _) _ _ _
    refine wpAny_bind (wpAny_seqItems hS5 rfl ?_)
    show wpAny _ A.in1 (tryCatch (pyNext (.ref I)) _ >>= _) _ _ _
    refine wpAny_bind (wpAny_tryCatch (wpAny_pyNext_list_end (A := A.in1) hh hIt5 (Heap.IsList.at hl (hk5 _)) rfl fun h6 he6 => ?_))
    have hk6 : ∀ b o, s.heap.get? b = some o → h6.get? b = some o := fun b o e => he6 b o (fun q => hnI o (q ▸ e)) (hk5 b o e)
    have hS6 := he6 S _ hSI hS5
    show wpAny _ A.in1 (updateSeq S (fun _ => #[]) >>= _) _ _ _
    refine wpAny_bind ?_
    refine wpAny_updateSeq hS6 rfl (wpAny_bind (wpAny_letGo (wpAny_pure ?_)))
    rw [hv]
    exact h _ (keep hnS hk6 (Heap.SameBut.update ..))
  cases hb : bb with
  | true =>
    simp only [if_true]
    refine wpAny_bind ?_
    refine wpAny_updateSeq hS4 rfl (wpAny_bind (wpAny_letGo ?_))
    rw [hname]
    have hs5 : Heap.SameBut S h4 (h4.update S (Obj.mapSeq fun _ => #[v₁, v₁])) := Heap.SameBut.update ..
    refine wpAny_pure ⟨plainId_quiet F.plain_min_loop _, fin _ v₁ _ (keep hnS hk4 hs5) (Heap.get?_update_self _ hS4 rfl) (hIt4.at fun o e => (hs5.2 I hIs).trans e) (by rw [hb]; rfl)⟩
  | false =>
    simp only [Bool.false_eq_true, if_false]
    refine wpAny_bind (wpAny_letGo ?_)
    rw [hname]
    exact wpAny_pure ⟨plainId_quiet F.plain_min_loop _, fin _ v₀ _ hk4 hS4 hIt4 (by rw [hb]; rfl)⟩
end
theorem gt_loop (l b : Addr) (items items2 : Array Value) (n n2 : Nat) (dd dd2 : Option Addr) (sl sl2 : Array (Option Value)) (d : Nat) (x y : PySem.Str) (hp : PartAt items items2 d x y) (k : Nat) :
    ∀ i : Nat, d - i = k → i ≤ d → Meets (Builtin.«list.__eq__.loop» ⟨[.ref l, .ref b, rawInt i, rawInt 4], []⟩)
      (fun A R s => s.heap.get? l = some { cls := .type "list", dict := dd, data := .seq items n, slots := sl } ∧ s.heap.get? b = some { cls := .type "list", dict := dd2, data := .seq items2 n2, slots := sl2 } ∧
        R (.ok (.ret (.bool (decide (y.cps.toList < x.cps.toList))))) s) := by
  induction k with
  | zero =>
    intro i hk hi prog w A R s h
    obtain ⟨hp', g, dr, tk, os⟩ := s; obtain ⟨hl, hb, h⟩ := h
    have e : i = d := by omega
    subst e
    obtain ⟨t, h1⟩ := hp.l
    obtain ⟨u, h2⟩ := hp.r
    have hi1 : items[((i : Nat) : Int).toNat]? = some (.str x t) := h1
    have hi2 : items2[((i : Nat) : Int).toNat]? = some (.str y u) := h2
    wp_walk using wpAny_loadPart' hl, wpAny_loadPart' hb
    rw [hi1, hi2]
    refine wpAny_bind (wpAny_eqBool_str ?_)
    rw [decide_eq_false hp.ne]
    refine wpAny_bind (PySem.wpAny_listItems hl rfl ?_)
    refine wpAny_bind (PySem.wpAny_listItems hb rfl ?_)
    rw [hi1, hi2]
    refine wpAny_bind (m := compareOp .Gt (.str x t) (.str y u)) (P.gt_str ?_)
    exact wpAny_pure h
  | succ k ih =>
    intro i hk hi prog w A R s h
    obtain ⟨hp', g, dr, tk, os⟩ := s; obtain ⟨hl, hb, h⟩ := h
    obtain ⟨z, t, u, h1, h2⟩ := hp.pre i (by omega)
    have hi1 : items[((i : Nat) : Int).toNat]? = some (.str z t) := h1
    have hi2 : items2[((i : Nat) : Int).toNat]? = some (.str z u) := h2
    have hc : ((i : Int) + 1) = ((i + 1 : Nat) : Int) := by push_cast; rfl
    wp_walk using wpAny_loadPart' hl, wpAny_loadPart' hb
    rw [hi1, hi2]
    refine wpAny_bind (wpAny_eqBool_str ?_)
    rw [decide_eq_true rfl]
    wp_walk
    rw [hc]
    exact ⟨plainId_quiet plain_eq_loop' _, codeAny_builtin entry_eq_loop' (by
      rw [Around.under_plainId plain_eq_loop' _]
      exact ih (i + 1) (by omega) (by omega) prog w A R _ ⟨hl, hb, h⟩)⟩
theorem list_gt (l b : Addr) (items items2 : Array Value) (n n2 : Nat) (dd dd2 : Option Addr) (sl sl2 : Array (Option Value)) (d : Nat) (x y : PySem.Str) (hp : PartAt items items2 d x y) :
    Meets (Builtin.«list.__gt__» ⟨[.ref l, .ref b], []⟩)
      (fun A R s => s.heap.get? l = some { cls := .type "list", dict := dd, data := .seq items n, slots := sl } ∧ s.heap.get? b = some { cls := .type "list", dict := dd2, data := .seq items2 n2, slots := sl2 } ∧
        R (.ok (.ret (.bool (decide (y.cps.toList < x.cps.toList))))) s) := by
  intro prog w A R s h
  obtain ⟨hp', g, dr, tk, os⟩ := s; obtain ⟨hl, hb, h⟩ := h
  have f3 := AutoSeq1.sub_list_list
  wp_walk using wpAny_loadPart' hl, wpAny_loadPart' hb
  exact ⟨plainId_quiet plain_eq_loop' _, codeAny_builtin entry_eq_loop' (by
    rw [Around.under_plainId plain_eq_loop' _]
    exact gt_loop l b items items2 n n2 dd dd2 sl sl2 d x y hp _ 0 rfl (Nat.zero_le _) prog w A R _ ⟨hl, hb, by simpa using h⟩)⟩
theorem rc_gt {prog : Program} {w : World} {A : Around} {E : Value → Shared → Prop} {s : Shared} {l b : Addr} {items items2 : Array Value} {d : Nat} {x y : PySem.Str} {Q : Value → Shared → Prop} (hl : s.heap.IsList l items) (hb : s.heap.IsList b items2) (hp : PartAt items items2 d x y) (hu : A.units < cLine)
    (h : Q (.bool (decide (y.cps.toList < x.cps.toList))) s) : wpAny (model prog w) A (richCompare .Gt (.ref l) (.ref b)) Q E s := by
  obtain ⟨o, ho, hc, n, hd⟩ := id hl
  obtain ⟨o2, ho2, hc2, n2, hd2⟩ := id hb
  obtain ⟨c, dd, dt, sl⟩ := o
  obtain ⟨c2, dd2, dt2, sl2⟩ := o2
  simp only at hc hd hc2 hd2
  subst hc hd hc2 hd2
  exact richCompare_meets_room (op := .Gt) hl.typeIs hb.typeIs F.slot_list_gt F.entry_list_gt (F.args_list_gt_2 _ _) (list_gt l b items items2 n n2 dd dd2 sl sl2 d x y hp) ⟨ho, ho2, ⟨by simp, h⟩⟩ hu
section
variable {prog : Program} {w : World} {A : Around} {E : Value → Shared → Prop} {s : Shared}
theorem max_two {l : Addr} {v₀ v₁ : Value} {bb : Bool} {Q : Value → Shared → Prop} (hh : A.handled = none) (hl : s.heap.IsList l #[v₀, v₁])
    (hc : ∀ (s' : Shared) (Q' : Value → Shared → Prop) (E' : Value → Shared → Prop), (∀ b o, s.heap.get? b = some o → s'.heap.get? b = some o) → Q' (.bool bb) s' → wpAny (model prog w) A.in1 (richCompare .Gt v₁ v₀) Q' E' s')
    (h : ∀ h', (∀ b o, s.heap.get? b = some o → h'.get? b = some o) → Q (if bb = true then v₁ else v₀) { s with heap := h' }) : wpAny (model prog w) A (call (.builtin "max") [.ref l]) Q E s := by
  have hname : (toString "max" ++ toString ".loop" : String) = "max.loop" := by decide
  refine call_function_tree F.kind_max F.plain_max F.entry_max (F.args_max1 _) ?_
  show wpAny _ A.in1 (Builtin.Builtins.bindParams "max" ["key", "default"] 0 ⟨[], []⟩ >>= _) _ _ s
  refine wpAny_bind (wpAny_of_eq (show Builtin.Builtins.bindParams "max" ["key", "default"] 0 ⟨[], []⟩ = pure [none, none] from rfl) ?_)
  refine wpAny_bind (wpAny_pure ?_)
  refine wpAny_bind (wpAny_pyIter_list hl ?_)
  refine wpAny_bind (wpAny_newObj_type ?_)
  rw [hname]
  generalize hI : s.heap.objs.size = I
  have hk0 : ∀ b o, s.heap.get? b = some o → (s.heap.push { cls := .type "list_iterator", data := .fields #[.ref l, .int 0 0] }).get? b = some o := fun b o e => Heap.get?_push_of_some _ e
  have hIt0 : (s.heap.push { cls := .type "list_iterator", data := .fields #[.ref l, .int 0 0] }).IsListIter I l 0 := ⟨_, by rw [← hI]; exact Heap.get?_push_size _ rfl, rfl, rfl⟩
  have hnI : ∀ o, s.heap.get? I ≠ some o := fun o e => Nat.lt_irrefl _ (hI ▸ Heap.lt_size e)
  have hsz : (s.heap.push { cls := .type "list_iterator", data := .fields #[.ref l, .int 0 0] }).objs.size = I + 1 := by rw [Heap.size_push, hI]
  generalize s.heap.push { cls := .type "list_iterator", data := .fields #[.ref l, .int 0 0] } = hp at hk0 hIt0 hsz ⊢
  rw [hsz]
  generalize hS : I + 1 = S at hsz ⊢
  have hSI : S ≠ I := by omega
  have hIs : I ≠ S := fun e => hSI e.symm
  have hnS : ∀ o, s.heap.get? S ≠ some o := fun o e => absurd (Heap.lt_size e) (Nat.not_lt.mpr (by rw [hI, ← hS]; exact Nat.le_succ _))
  have hpS : (hp.push { cls := .type "list", data := .seq ([] : List Value).toArray }).get? S = some { cls := .type "list", data := .seq ([] : List Value).toArray } := by rw [← hsz]; exact Heap.get?_push_size _ rfl
  have hk1 : ∀ b o, s.heap.get? b = some o → (hp.push { cls := .type "list", data := .seq ([] : List Value).toArray }).get? b = some o := fun b o e => Heap.get?_push_of_some _ (hk0 b o e)
  have hIt1 : (hp.push { cls := .type "list", data := .seq ([] : List Value).toArray }).IsListIter I l 0 := hIt0.at fun o e => Heap.get?_push_of_some _ e
  generalize hp.push { cls := .type "list", data := .seq ([] : List Value).toArray } = h1 at hpS hk1 hIt1 ⊢
  have keep : ∀ {ha hb : Heap} {a : Addr}, (∀ o, s.heap.get? a ≠ some o) → (∀ b o, s.heap.get? b = some o → ha.get? b = some o) → Heap.SameBut a ha hb → ∀ b o, s.heap.get? b = some o → hb.get? b = some o :=
    fun {ha hb a} hn hk hs b o e => (hs.2 b (fun q => hn o (q ▸ e))).trans (hk b o e)
  -- the first item
  refine wpAny_pure ⟨plainId_quiet F.plain_max_loop _, codeAny_builtin F.entry_max_loop ?_⟩
  rw [Around.under_plainId F.plain_max_loop _]
  show wpAny _ A.in1 (seqItems? (.ref S) >>= _) _ _ _
  refine wpAny_bind (wpAny_seqItems hpS rfl ?_)
  show wpAny _ A.in1 (tryCatch (pyNext (.ref I)) _ >>= _) _ _ _
  refine wpAny_bind (wpAny_tryCatch (wpAny_pyNext_list_item hIt1 (Heap.IsList.at hl (hk1 _)) (x := v₀) rfl fun h2 hIt2 hs2 => ?_))
  have hk2 := keep hnI hk1 hs2
  have hS2 := (hs2.2 S hSI).trans hpS
  show wpAny _ A.in1 (updateSeq S (fun _ => #[v₀, v₀]) >>= _) _ _ _
  refine wpAny_bind ?_
  refine wpAny_updateSeq hS2 rfl ?_
  rw [hname]
  have hs3 : Heap.SameBut S h2 (h2.update S (Obj.mapSeq fun _ => #[v₀, v₀])) := Heap.SameBut.update ..
  have hk3 := keep hnS hk2 hs3
  obtain ⟨c3, hS3⟩ : ∃ c, (h2.update S (Obj.mapSeq fun _ => #[v₀, v₀])).get? S = some { cls := .type "list", data := .seq #[v₀, v₀] c } := ⟨_, Heap.get?_update_self _ hS2 rfl⟩
  have hIt3 : (h2.update S (Obj.mapSeq fun _ => #[v₀, v₀])).IsListIter I l 1 := hIt2.at fun o e => (hs3.2 I hIs).trans e
  generalize h2.update S (Obj.mapSeq fun _ => #[v₀, v₀]) = h3 at hk3 hS3 hIt3 ⊢
  -- the second
  refine wpAny_pure ⟨plainId_quiet F.plain_max_loop _, codeAny_builtin F.entry_max_loop ?_⟩
  rw [Around.under_plainId F.plain_max_loop _]
  show wpAny _ A.in1 (seqItems? (.ref S) >>= _) _ _ _
  refine wpAny_bind (wpAny_seqItems hS3 rfl ?_)
  show wpAny _ A.in1 (tryCatch (pyNext (.ref I)) _ >>= _) _ _ _
  refine wpAny_bind (wpAny_tryCatch (wpAny_pyNext_list_item hIt3 (Heap.IsList.at hl (hk3 _)) (x := v₁) rfl fun h4 hIt4 hs4 => ?_))
  have hk4 := keep hnI hk3 hs4
  have hS4 := (hs4.2 S hSI).trans hS3
  show wpAny _ A.in1 (tryCatch (holding [v₁, v₁] (richCompare .Gt v₁ v₀ >>= _)) _ >>= _) _ _ _
  refine wpAny_bind (wpAny_tryCatch (wpAny_holding (wpAny_bind (hc _ _ _ hk4 ?_))))
  refine wpAny_bind (wpAny_holding (wpAny_truthy_bool ?_))
  refine wpAny_bind (wpAny_letGo (wpAny_pure ?_))
  have fin : ∀ (h5 : Heap) (v : Value) (c : Nat), (∀ b o, s.heap.get? b = some o → h5.get? b = some o) → h5.get? S = some { cls := .type "list", data := .seq #[v, v] c } → h5.IsListIter I l 2 → v = (if bb = true then v₁ else v₀) →
      codeAny (model prog w) A (.builtin "max.loop" ⟨[.ref I, .none, .ref S], []⟩) (fun r s' => match r with | .ok (.ret v) => Q v s' | .ok _ => False | .error e => E e s') { s with heap := h5 } := by
    intro h5 v c hk5 hS5 hIt5 hv
    refine codeAny_builtin F.entry_max_loop ?_
    rw [Around.under_plainId F.plain_max_loop _]
    show wpAny _ A.in1 (seqItems? (.ref S) >>= _) _ _ _
    refine wpAny_bind (wpAny_seqItems hS5 rfl ?_)
    show wpAny _ A.in1 (tryCatch (pyNext (.ref I)) _ >>= _) _ _ _
    refine wpAny_bind (wpAny_tryCatch (wpAny_pyNext_list_end (A := A.in1) hh hIt5 (Heap.IsList.at hl (hk5 _)) rfl fun h6 he6 => ?_))
    have hk6 : ∀ b o, s.heap.get? b = some o → h6.get? b = some o := fun b o e => he6 b o (fun q => hnI o (q ▸ e)) (hk5 b o e)
    have hS6 := he6 S _ hSI hS5
    show wpAny _ A.in1 (updateSeq S (fun _ => #[]) >>= _) _ _ _
    refine wpAny_bind ?_
    refine wpAny_updateSeq hS6 rfl (wpAny_bind (wpAny_letGo (wpAny_pure ?_)))
    rw [hv]
    exact h _ (keep hnS hk6 (Heap.SameBut.update ..))
  cases hb : bb with
  | true =>
    simp only [if_true]
    refine wpAny_bind ?_
    refine wpAny_updateSeq hS4 rfl (wpAny_bind (wpAny_letGo ?_))
    rw [hname]
    have hs5 : Heap.SameBut S h4 (h4.update S (Obj.mapSeq fun _ => #[v₁, v₁])) := Heap.SameBut.update ..
    refine wpAny_pure ⟨plainId_quiet F.plain_max_loop _, fin _ v₁ _ (keep hnS hk4 hs5) (Heap.get?_update_self _ hS4 rfl) (hIt4.at fun o e => (hs5.2 I hIs).trans e) (by rw [hb]; rfl)⟩
  | false =>
    simp only [Bool.false_eq_true, if_false]
    refine wpAny_bind (wpAny_letGo ?_)
    rw [hname]
    exact wpAny_pure ⟨plainId_quiet F.plain_max_loop _, fin _ v₀ _ hk4 hS4 hIt4 (by rw [hb]; rfl)⟩
end
end

section
open PySem PySem.W PyProof.Rows PySem.Calls PyProof.V
noncomputable def set0 (led : Bool) : Obj := { cls := .type "set", data := .set #[] 0 (SetTable.fresh 0 0 led) }
noncomputable def tab1 (led : Bool) : SetTable := { mask := 7, place := #[1], dummies := #[], finger := 0, led := led, moves := 0, plain := true }
noncomputable def set1 (led : Bool) : Obj := { cls := .type "set", data := .set #[(1, .bool true)] 1 (tab1 led) }
section
variable {prog : Program} {w : World} {A : Around} {E : Value → Shared → Prop} {s : Shared}
theorem pyHash_true {Q : Int → Shared → Prop} (hu : A.units < cLine) (h : ∀ tk, Q 1 { s with toks := tk }) : wpAny (model prog w) A (pyHash (.bool true)) Q E s := by
  refine pyHash_slot (T := "bool") rfl F.slot_bool_hash PySem.entry_int_hash (PySem.args_int_hash _) (beq_builtin_none _) (.inr hu) ?_
  exact (show wpAny _ _ (do ret (← mkInt 1)) _ _ s from wpAny_bind (wpAny_mkInt (wpAny_pure ⟨_, _, rfl, h _⟩)))
theorem layNew0 (led : Bool) : layNew (SetTable.fresh 0 0 led) #[] 1 (.bool true) = (#[(1, .bool true)], tab1 led, false, false) := by
  cases led <;> decide +kernel
theorem set_add0 {a : Addr} {led : Bool} {Q : Value → Shared → Prop} (hu : A.units + 10 < cLine) (ho : s.heap.get? a = some (set0 led))
    (h : ∀ h' tk, Heap.SameBut a s.heap h' → h'.get? a = some (set1 led) → Q .none { s with heap := h', toks := tk }) : wpAny (model prog w) A (call (.builtin "set.add") [.ref a, .bool true]) Q E s := by
  refine wpAny_call_entry F.slot_set_add ⟨_, ho, rfl⟩ F.entry_set_add ?_ (F.args_set_add_2 _ _)
  unfold Builtin.«set.add» Builtin.Frozenset.oneOther
  simp only [List.isEmpty_nil, bind_assoc]
  unfold Builtin.Frozenset.addrOf setAdd
  refine wpAny_bind (wpAny_pure ?_)
  try dsimp only
  refine wpAny_bind (wpAny_pure ?_)
  try dsimp only
  refine wpAny_bind ?_
  refine wpAny_holding ?_
  refine wpAny_bind (pyHash_true (by show A.units + 1 < cLine; lia) fun tk => ?_)
  unfold setAddHashed setAddHashedIn
  refine wpAny_holding (wpAny_bind (wpAny_setState_of (s := { s with toks := tk }) ho rfl rfl ?_))
  dsimp only
  rw [if_pos (show byScan (.bool true) #[] = true by kernel_rfl)]
  unfold setAddByScan
  rw [layNew0]
  refine wpAny_bind (wpAny_bind (wpAny_rule (wpAny_bind ?_)))
  unfold setScan setScanFrom
  refine wpAny_pure ?_
  dsimp only
  refine wpAny_bind (wpAny_pure ?_)
  unfold hashByValue
  refine wpAny_bind (wpAny_pure ?_)
  simp only [if_true]
  rw [if_neg (show ¬ ((!false && (tab1 led).tooFull) = true) by cases led <;> decide +kernel)]
  unfold storeSet
  refine wpAny_bind (wpAny_bind (wpAny_load (s := { s with toks := tk }) ho ?_))
  dsimp only [set0]
  rw [if_neg (show ¬ ((#[((1 : Int), Value.bool true)] : Array (Int × Value)).size > sizeLine) by decide)]
  refine wpAny_update' ho ?_
  refine wpAny_bind (wpAny_pure ?_)
  refine wpAny_pure ?_
  dsimp only
  refine wpAny_pure ?_
  show wpAny _ _ (ret Value.none) _ _ _
  exact wpAny_pure ⟨_, rfl, h _ tk (Heap.SameBut.update ..) (Heap.get?_update_self _ ho rfl)⟩
theorem set_add1 {a : Addr} {led : Bool} {Q : Value → Shared → Prop} (hu : A.units + 10 < cLine) (ho : s.heap.get? a = some (set1 led))
    (h : ∀ tk, Q .none { s with toks := tk }) : wpAny (model prog w) A (call (.builtin "set.add") [.ref a, .bool true]) Q E s := by
  refine wpAny_call_entry F.slot_set_add ⟨_, ho, rfl⟩ F.entry_set_add ?_ (F.args_set_add_2 _ _)
  unfold Builtin.«set.add» Builtin.Frozenset.oneOther
  simp only [List.isEmpty_nil, bind_assoc]
  unfold Builtin.Frozenset.addrOf setAdd
  refine wpAny_bind (wpAny_pure ?_)
  try dsimp only
  refine wpAny_bind (wpAny_pure ?_)
  try dsimp only
  refine wpAny_bind ?_
  refine wpAny_holding ?_
  refine wpAny_bind (pyHash_true (by show A.units + 1 < cLine; lia) fun tk => ?_)
  unfold setAddHashed setAddHashedIn
  refine wpAny_holding (wpAny_bind (wpAny_setState_of (s := { s with toks := tk }) ho rfl rfl ?_))
  dsimp only
  rw [if_pos (show byScan (.bool true) #[(1, Value.bool true)] = true by kernel_rfl)]
  unfold setAddByScan
  refine wpAny_bind (wpAny_bind (wpAny_rule (wpAny_bind ?_)))
  unfold setScan setScanFrom
  rw [if_pos (show ((1 : Int) == 1) = true from rfl)]
  refine wpAny_bind (wpAny_setEpoch_of (s := { s with toks := tk }) ho rfl rfl ?_)
  unfold eqBool
  refine wpAny_bind (wpAny_holding ?_)
  rw [if_pos (show (Value.bool true == Value.bool true) = true from rfl)]
  refine wpAny_bind (wpAny_rule (wpAny_pure ?_))
  rw [if_pos (show (true && true) = true from rfl)]
  refine wpAny_pure (wpAny_pure ?_)
  refine wpAny_pure ?_
  show wpAny _ _ (ret Value.none) _ _ _
  exact wpAny_pure ⟨_, rfl, h tk⟩
end
theorem slot_setiter_next : Slot "set_iterator" "__next__" "set_iterator.__next__" :=
  .of (owner := "set_iterator") (n := "__next__") (by rw [typeLookup_type, builtinLookup_eq_fast]; kernel_rfl) (by decide +kernel) (by decide +kernel) (by decide +kernel)
    (by first | exact .inl (by decide +kernel) | exact .inr (by decide +kernel)) (by rw [isSubtype_type]; kernel_rfl)
theorem entry_setiter_next : entryFor table "set_iterator.__next__" = some Builtin.«set_iterator.__next__» := entryFor_of_tree (by kernel_rfl)
theorem args_setiter_next (a : Value) : argsOk "set_iterator.__next__" ⟨[a], []⟩ := by unfold argsOk; kernel_rfl
theorem entry_set_iter' : entryFor table "set.__iter__" = some Builtin.«frozenset.__iter__» :=
  entryFor_alias (id' := "frozenset.__iter__") (by kernel_rfl) rfl (by decide +kernel) (by kernel_rfl)
noncomputable def setIt (a : Addr) (slot i : Nat) : Obj := { cls := .type "set_iterator", data := .fields #[.int slot 0, .int i 0, .ref a, .int 1 0, .int 1 0] }
section
variable {prog : Program} {w : World} {A : Around} {E : Value → Shared → Prop} {s : Shared}
theorem setState1 {a : Addr} {led : Bool} {Q : (Array (Int × Value) × Nat × SetTable) → Shared → Prop} (ho : s.heap.get? a = some (set1 led)) (h : Q (#[(1, .bool true)], 1, tab1 led) s) :
    wpAny (model prog w) A (setState a) Q E s := wpAny_setState_of ho rfl rfl h
theorem pyIter_set1 {a : Addr} {led : Bool} {Q : Value → Shared → Prop} (ho : s.heap.get? a = some (set1 led))
    (h : Q (.ref s.heap.objs.size) { s with heap := s.heap.push (setIt a 0 0) }) : wpAny (model prog w) A (pyIter (.ref a)) Q E s := by
  have hT : s.TypeIs (.ref a) "set" := ⟨_, ho, rfl⟩
  refine wpAny_pyIter_slot hT F.slot_set_iter (wpAny_call_entry F.slot_set_iter hT entry_set_iter' ?_ (F.args_set_iter_1 _))
  unfold Builtin.«frozenset.__iter__»
  refine wpAny_bind (m := Builtin.Frozenset.slot0 "__iter__" ⟨[.ref a], []⟩) (wpAny_of_eq (a := a) (by first | rfl | kernel_rfl!) ?_)
  unfold Builtin.Frozenset.sizeOf setEntries
  refine wpAny_bind (wpAny_bind (wpAny_bind (setState1 ho (wpAny_pure (wpAny_pure ?_)))))
  unfold setDrawn setsByText
  refine wpAny_bind (wpAny_bind (setState1 ho (wpAny_bind (wpAny_bind (wpAny_askSetting (wpAny_pure (wpAny_pure ?_)))))))
  refine wpAny_ite_split (fun hab => absurd (Bool.and_eq_true_iff.mp hab).2 (by cases led <;> decide +kernel)) (fun _ => ?_)
  refine wpAny_bind (wpAny_pure ?_)
  unfold setEpoch
  refine wpAny_bind (wpAny_bind (setState1 ho (wpAny_pure ?_)))
  show wpAny _ _ (do ret (← newFields "set_iterator" [rawInt 0, rawInt 0, .ref a, rawInt 1, rawInt 1])) _ _ s
  exact wpAny_bind (wpAny_newObj_type (wpAny_pure ⟨_, rfl, "set_iterator", _, ⟨_, Heap.get?_push_size _ rfl, rfl⟩, slot_setiter_next.lookup, h⟩))
noncomputable def SetGo (w : World) (led : Bool) : Prop := w.params.followText "set-order" = true ∨ led = true
noncomputable def nxt (w : World) : Nat := if w.params.followText "set-order" = true then 0 else 2
theorem setNext_a {a : Addr} {led : Bool} {Q : Option (Value × Nat) → Shared → Prop} (hg : SetGo w led) (ho : s.heap.get? a = some (set1 led))
    (h : Q (some (.bool true, nxt w)) s) : wpAny (model prog w) A (setNext a 0 0 1) Q E s := by
  unfold setNext setsByText
  refine wpAny_bind (setState1 ho ?_)
  refine wpAny_bind (wpAny_bind (wpAny_askSetting (wpAny_pure ?_)))
  refine wpAny_ite_split (fun hb => ?_) (fun hb => ?_)
  · rw [if_neg (by decide)]
    unfold setWalk setsByText
    refine wpAny_bind (wpAny_bind (setState1 ho ?_))
    refine wpAny_bind (wpAny_bind (wpAny_askSetting (wpAny_pure ?_)))
    refine wpAny_ite_split (fun _ => ?_) (fun hc => absurd hb hc)
    refine wpAny_bind (wpAny_askSetting (wpAny_pure (wpAny_pure ?_)))
    have e1 : ∀ f : Nat → Nat, pickOrder f #[((1 : Int), Value.bool true)] = #[((1 : Int), Value.bool true)] := by
      intro f
      unfold pickOrder
      show pickOrder.go f 1 0 [((1 : Int), Value.bool true)] #[] = _
      unfold pickOrder.go
      simp only [List.length_singleton, Nat.mod_one, List.getElem?_cons_zero]
      unfold pickOrder.go
      rfl
    rw [e1]
    have e2 : nxt w = 0 := if_pos hb
    rw [e2] at h
    exact h
  · have hl : led = true := hg.resolve_left hb
    subst hl
    refine wpAny_ite_split (fun hd => absurd hd (by decide +kernel)) (fun _ => ?_)
    refine wpAny_bind (wpAny_pure (wpAny_pure ?_))
    have e2 : nxt w = 2 := if_neg hb
    rw [e2] at h
    have e3 : SetTable.below (tab1 true).place 0 = 0 := by decide +kernel
    simp only [e3]
    exact h
theorem setNext_b {a : Addr} {led : Bool} {Q : Option (Value × Nat) → Shared → Prop} (hg : SetGo w led) (ho : s.heap.get? a = some (set1 led))
    (h : Q none s) : wpAny (model prog w) A (setNext a (nxt w) 1 1) Q E s := by
  unfold setNext setsByText
  refine wpAny_bind (setState1 ho ?_)
  refine wpAny_bind (wpAny_bind (wpAny_askSetting (wpAny_pure ?_)))
  refine wpAny_ite_split (fun hb => ?_) (fun hb => ?_)
  · rw [if_neg (by decide)]
    unfold setWalk setsByText
    refine wpAny_bind (wpAny_bind (setState1 ho ?_))
    refine wpAny_bind (wpAny_bind (wpAny_askSetting (wpAny_pure ?_)))
    refine wpAny_ite_split (fun _ => ?_) (fun hc => absurd hb hc)
    refine wpAny_bind (wpAny_askSetting (wpAny_pure (wpAny_pure ?_)))
    have e1 : ∀ f : Nat → Nat, pickOrder f #[((1 : Int), Value.bool true)] = #[((1 : Int), Value.bool true)] := by
      intro f
      unfold pickOrder
      show pickOrder.go f 1 0 [((1 : Int), Value.bool true)] #[] = _
      unfold pickOrder.go
      simp only [List.length_singleton, Nat.mod_one, List.getElem?_cons_zero]
      unfold pickOrder.go
      rfl
    rw [e1]
    exact h
  · have hl : led = true := hg.resolve_left hb
    subst hl
    refine wpAny_ite_split (fun hd => absurd hd (by decide +kernel)) (fun _ => ?_)
    refine wpAny_bind (wpAny_pure (wpAny_pure ?_))
    have e2 : nxt w = 2 := if_neg hb
    rw [e2]
    have e3 : SetTable.below (tab1 true).place 2 = 1 := by decide +kernel
    simp only [e3]
    exact h
theorem pyNext_set_item {a it : Addr} {led : Bool} {Q : Option Value → Shared → Prop} (hg : SetGo w led) (hi : s.heap.get? it = some (setIt a 0 0)) (ho : s.heap.get? a = some (set1 led))
    (h : ∀ h', Heap.SameBut it s.heap h' → h'.get? it = some (setIt a (nxt w) 1) → Q (some (.bool true)) { s with heap := h' }) : wpAny (model prog w) A (pyNext (.ref it)) Q E s := by
  have hT : s.TypeIs (.ref it) "set_iterator" := ⟨_, hi, rfl⟩
  unfold pyNext
  refine wpAny_bind (wpAny_attempt (wpAny_callSpecial?_slot (name := Str.ofString "__next__") hT slot_setiter_next
    (wpAny_call_entry slot_setiter_next hT entry_setiter_next ?_ (args_setiter_next _))))
  unfold Builtin.«set_iterator.__next__»
  refine wpAny_bind (wpAny_pure ?_)
  dsimp only
  refine wpAny_bind (wpAny_fieldsOf hi rfl ?_)
  dsimp only
  unfold setEntries
  refine wpAny_bind (wpAny_bind (setState1 ho (wpAny_pure ?_)))
  dsimp only
  rw [if_neg (show ¬ ((((#[((1 : Int), Value.bool true)] : Array (Int × Value)).size : Int) != 1) = true) by decide)]
  refine wpAny_bind (setNext_a hg ho ?_)
  dsimp only
  refine wpAny_bind (wpAny_setField_rec hi (by simp) fun h₁ hi₁ hs₁ => ?_)
  refine wpAny_bind (wpAny_setField_rec hi₁ (by simp) fun h₂ hi₂ hs₂ => ?_)
  refine wpAny_pure ⟨_, rfl, wpAny_pure (h h₂ (hs₁.trans hs₂) ?_)⟩
  exact hi₂
theorem pyNext_set_end {a it : Addr} {led : Bool} {Q : Option Value → Shared → Prop} (hh : A.handled = none) (hg : SetGo w led) (hi : s.heap.get? it = some (setIt a (nxt w) 1)) (ho : s.heap.get? a = some (set1 led))
    (h : ∀ h', Heap.ExtBut it s.heap h' → Q none { s with heap := h' }) : wpAny (model prog w) A (pyNext (.ref it)) Q E s := by
  have hT : s.TypeIs (.ref it) "set_iterator" := ⟨_, hi, rfl⟩
  unfold pyNext
  refine wpAny_bind (wpAny_attempt (wpAny_callSpecial?_slot (name := Str.ofString "__next__") hT slot_setiter_next
    (wpAny_call_entry slot_setiter_next hT entry_setiter_next ?_ (args_setiter_next _))))
  unfold Builtin.«set_iterator.__next__»
  refine wpAny_bind (wpAny_pure ?_)
  dsimp only
  refine wpAny_bind (wpAny_fieldsOf hi rfl ?_)
  dsimp only
  unfold setEntries
  refine wpAny_bind (wpAny_bind (setState1 ho (wpAny_pure ?_)))
  dsimp only
  rw [if_neg (show ¬ ((((#[((1 : Int), Value.bool true)] : Array (Int × Value)).size : Int) != 1) = true) by decide)]
  refine wpAny_bind (setNext_b hg ho ?_)
  dsimp only
  refine wpAny_bind (wpAny_setField_rec hi (by simp) fun h₁ hi₁ hs₁ => ?_)
  show wpAny _ _ (newExc (.type "StopIteration") [] >>= _) _ _ _
  refine wpAny_bind ?_
  simp only [newExc, newTuple]
  refine wpAny_bind (wpAny_newObj_type ?_ (by size_fits))
  refine wpAny_bind (m := firstArgMember _ _) (wpAny_of_eq (a := Value.none) (by first | rfl | (simp only [firstArgMember]; rfl)) ?_)
  refine wpAny_newObj_type ?_ (by size_fits)
  simp only [raiseNew]
  refine wpAny_bind (wpAny_handled ?_)
  rw [show A.in1.handled = none from hh]
  refine wpAny_bind (wpAny_pure (wpAny_throw ?_))
  refine wpAny_bind (wpAny_isInstance (T := "StopIteration") (b := true) ⟨_, Heap.get?_push_size _ rfl, rfl⟩ isSubtype_stop ?_)
  exact wpAny_pure (h _ ((hs₁.extBut.push _).push _))
theorem unpack_set1 {a : Addr} {led : Bool} {Q : List Value → Shared → Prop} (hh : A.handled = none) (hg : SetGo w led) (ho : s.heap.get? a = some (set1 led))
    (h : ∀ h', Heap.ExtBut s.heap.objs.size s.heap h' → Q [.bool true] { s with heap := h' }) : wpAny (model prog w) A (unpackItems (.ref a) 1 none) Q E s := by
  have hT : s.TypeIs (.ref a) "set" := ⟨_, ho, rfl⟩
  unfold unpackItems
  refine wpAny_bind ?_
  unfold notIterableAtAll
  refine wpAny_bind (wpAny_specialOf hT F.slot_set_iter.lookup ?_)
  refine wpAny_pure ?_
  simp only [Bool.false_eq_true, if_false]
  refine wpAny_bind (wpAny_holding (pyIter_set1 ho ?_))
  have hlt : a ≠ s.heap.objs.size := Nat.ne_of_lt (Heap.lt_size ho)
  refine wpAny_bind (wpAny_holding ?_)
  unfold draw
  refine wpAny_bind (pyNext_set_item hg (Heap.get?_push_size _ rfl) (Heap.get?_push_of_some _ ho) fun h₁ hs₁ hi₁ => ?_)
  refine wpAny_bind (wpAny_holding ?_)
  unfold draw
  refine wpAny_pure (wpAny_pure ?_)
  rw [if_neg (by decide)]
  have ho₁ : h₁.get? a = some (set1 led) := (hs₁.2 a hlt).trans (Heap.get?_push_of_some _ ho)
  refine wpAny_bind (wpAny_holding (pyNext_set_end hh hg hi₁ ho₁ fun h₂ he₂ => ?_))
  rw [if_neg (by decide)]
  exact wpAny_pure (h h₂ fun b o hb e => he₂ b o hb (hs₁.extBut b o hb (Heap.get?_push_of_some _ e)))
end
section
variable {D : Wd} {n : Nat} {env cenv : Env} {L C : Addr} {ns : Kinds} {cl : List (PySem.Str × Addr)} {W W' W₁ W₂ W₃ : Wld} {F G : Led} {s : Shared}
theorem Core.upd {N N' : Wld} (c : Core D F G (N ++ W) s) {h' : Heap} {t : Nat} (ha : N'.map (·.1) = N.map (·.1)) (k : ∀ b o, (∀ p ∈ N, p.1 ≠ b) → s.heap.get? b = some o → h'.get? b = some o) (hm : ∀ p ∈ N', p.2.Is G h' p.1) :
    Core D F G (N' ++ W) { s with heap := h', toks := t } := by
  have nd := c.nd
  rw [List.map_append, List.nodup_append] at nd
  have mem : ∀ p ∈ N', ∃ q ∈ N, q.1 = p.1 := fun p hp => by
    have : p.1 ∈ N.map (·.1) := by rw [← ha]; exact List.mem_map_of_mem hp
    obtain ⟨q, hq, e⟩ := List.mem_map.mp this
    exact ⟨q, hq, e⟩
  refine ⟨c.base, ?_, ?_, c.apart, ?_, ?_, ?_, ?_, c.gens, c.os⟩
  · intro b o g; exact k b o (fun p hp e => c.wG p (List.mem_append.mpr (.inl hp)) o (e ▸ g)) (c.inn b o g)
  · intro b o g; exact k b o (fun p hp e => c.wF p (List.mem_append.mpr (.inl hp)) o (e ▸ g)) (c.frn b o g)
  · intro p hp o
    rcases List.mem_append.mp hp with hp | hp
    · obtain ⟨q, hq, e⟩ := mem p hp; rw [← e]; exact c.wG q (List.mem_append.mpr (.inl hq)) o
    · exact c.wG p (List.mem_append.mpr (.inr hp)) o
  · intro p hp o
    rcases List.mem_append.mp hp with hp | hp
    · obtain ⟨q, hq, e⟩ := mem p hp; rw [← e]; exact c.wF q (List.mem_append.mpr (.inl hq)) o
    · exact c.wF p (List.mem_append.mpr (.inr hp)) o
  · rw [List.map_append, List.nodup_append, ha]; exact nd
  · intro p hp
    rcases List.mem_append.mp hp with h1 | h1
    · exact hm p h1
    · refine MO.mv Led.le.rfl (fun o e => k _ o (fun q hq e' => ?_) e) (c.wok p (List.mem_append.mpr (.inr h1)))
      exact nd.2.2 _ (List.mem_map_of_mem hq) _ (List.mem_map_of_mem h1) e'
theorem Core.gone {N : Wld} (c : Core D F G (N ++ W) s) {h' : Heap} {t : Nat} (k : ∀ b o, (∀ p ∈ N, p.1 ≠ b) → s.heap.get? b = some o → h'.get? b = some o) : Core D F G W { s with heap := h', toks := t } := by
  have nd := c.nd
  rw [List.map_append, List.nodup_append] at nd
  have c' := c.sub (List.sublist_append_right N W)
  refine ⟨c.base, ?_, ?_, c.apart, c'.wG, c'.wF, c'.nd, ?_, c.gens, c.os⟩
  · intro b o g; exact k b o (fun p hp e => c.wG p (List.mem_append.mpr (.inl hp)) o (e ▸ g)) (c.inn b o g)
  · intro b o g; exact k b o (fun p hp e => c.wF p (List.mem_append.mpr (.inl hp)) o (e ▸ g)) (c.frn b o g)
  · intro p hp
    refine MO.mv Led.le.rfl (fun o e => k _ o (fun q hq e' => ?_) e) (c'.wok p hp)
    exact nd.2.2 _ (List.mem_map_of_mem hq) _ (List.mem_map_of_mem hp) e'
theorem setTurn_eq (elt t iter : Expr) (scope : Scope) (pos : Pos) (it acc : Value) (env : Env) :
    compTurn (.SetComp elt [⟨t, iter, [], 0⟩] scope pos) 0 it acc env = (standAt iter.pos >>= fun _ => pyNext it >>= fun r => match r with
      | none => pure (.done .next)
      | some v => letOwnedTupleGo t it v >>= fun _ => assign t env v >>= fun _ => ((eval elt env >>= fun x => standAt elt.pos >>= fun _ => call (.builtin "set.add") [acc, x] >>= fun _ => pure ()) >>= fun _ => again (.compLoop (.SetComp elt [⟨t, iter, [], 0⟩] scope pos) 0 it acc env))) := by
  unfold compTurn
  dsimp only
  rfl
theorem codeAny_setStart_at {A : Around} {R : Result → Shared → Prop} {elt t iter : Expr} {ifs : List Expr} {scope : Scope} {pos : Pos} {it acc : Value} {env : Env}
    (h0 : codeAny (model D.prog D.w) A (.compLoop (.SetComp elt [⟨t, iter, ifs, 0⟩] scope pos) 0 it acc env) R s)
    (hi : ∀ (Q : Value → Shared → Prop) (E : Value → Shared → Prop), Q it s → wpAny (model D.prog D.w) A (pyIter it) Q E s) :
    codeAny (model D.prog D.w) A (.compStart (.SetComp elt [⟨t, iter, ifs, 0⟩] scope pos) 0 it acc env) R s := by
  refine codeAny_of_tree ?_
  show wpAny _ A ((compStart (.SetComp elt [⟨t, iter, ifs, 0⟩] scope pos) 0 it acc env).onRaise (fun x => do noteFrame x env; standAt theWindowsPlace)) _ _ s
  refine wpAny_notedAt ?_
  unfold compStart
  have hc : clausesOf (.SetComp elt [⟨t, iter, ifs, 0⟩] scope pos) = [⟨t, iter, ifs, 0⟩] := rfl
  rw [hc]
  simp only [List.getElem?_cons_zero, Option.elim, bne_self_eq_false, Bool.false_eq_true, if_false]
  show wpAny _ _ (ask >>= _) _ _ s
  refine wpAny_bind (wpAny_askSetting (wpAny_ite ?_))
  split
  · first
      | exact wpAny_bind (wpAny_pure (wpAny_pure (And.intro rfl h0)))
      | exact wpAny_pure (And.intro rfl h0)
  · refine wpAny_bind (wpAny_rule ?_)
    first
      | exact wpAny_bind (wpAny_standAt (wpAny_bind (hi _ _ (wpAny_pure (And.intro rfl h0)))))
      | (show wpAny _ _ (standAt iter.pos >>= _) _ _ s; exact wpAny_bind (wpAny_standAt (wpAny_bind (hi _ _ (wpAny_pure (And.intro rfl h0))))))
end
end

section
open PySem PySem.W PyProof.Rows PySem.Calls PyProof.V
section
variable {D : Wd} {n : Nat} {env cenv : Env} {L C : Addr} {ns : Kinds} {cl : List (PySem.Str × Addr)} {W W' W₁ W₂ W₃ : Wld} {F G : Led} {s : Shared}
noncomputable def setO (led b : Bool) : Obj := if b = true then set1 led else set0 led
theorem setO_add {prog : Program} {w : World} {A : Around} {E : Value → Shared → Prop} {a : Addr} {led b : Bool} {Q : Value → Shared → Prop} (hu : A.units + 10 < cLine) (ho : s.heap.get? a = some (setO led b))
    (h : ∀ h' tk, Heap.SameBut a s.heap h' → h'.get? a = some (setO led true) → Q .none { s with heap := h', toks := tk }) : wpAny (model prog w) A (call (.builtin "set.add") [.ref a, .bool true]) Q E s := by
  cases b with
  | false => exact set_add0 hu ho h
  | true => exact set_add1 hu ho fun tk => h s.heap tk (Heap.SameBut.refl _ _) ho
theorem setLoop {x : PySem.Str} {xp : Pos} {itx elt : Expr} {scope : Scope} {pos : Pos} {led : Bool} (ok : EnvOk cenv C ns cl) (hk : ns.lookup x = some .local) :
    ∀ (qs : List PV) (b : Bool) (A : Around) (F G₀ G : Led) (s : Shared) (it acc : Addr) (ob : Obj) (St : Nat → Heap → Prop) (ps₀ : List PV) (i : Nat) (σ : Sg) (R : Result → Shared → Prop), Room A (n + 1) → Iterates D G₀ it ps₀ St → G₀.le G → ps₀.drop i = qs → St i s.heap → σ.one x →
      (∀ p ∈ qs, EvalR D (n + 1) cenv ((C, .frame [(x, p)]) :: W) elt (.bool true) ((C, .frame [(x, p)]) :: W)) → Core D F G ((it, .raw ob) :: (acc, .raw (setO led b)) :: (C, .frame σ) :: W) s →
      (∀ σ' G' s', G.le G' → Core D F G' ((acc, .raw (setO led (b || !qs.isEmpty))) :: (C, .frame σ') :: W) s' → R (.ok .next) s') →
      codeAny (model D.prog D.w) A (.compLoop (.SetComp elt [⟨.Name x xp, itx, [], 0⟩] scope pos) 0 (.ref it) (.ref acc) cenv) R s := by
  intro qs
  induction qs with
  | nil =>
    intro b A F G₀ G s it acc ob St ps₀ i σ R rm I l0 hps st h1 hel c k
    refine codeAny_of_tree ?_
    show wpAny _ A ((compTurn (.SetComp elt [⟨.Name x xp, itx, [], 0⟩] scope pos) 0 (.ref it) (.ref acc) cenv).onRaise (fun x => do noteFrame x cenv; theTreesLotGoes x)) _ _ s
    refine wpAny_noted ?_
    rw [setTurn_eq]
    refine wpAny_bind (wpAny_standAt (wpAny_bind (I.step A (n + 1) F G _ ob s i _ _ rm c l0 st ?_ ?_)))
    · intro p hp; rw [drop_end hps] at hp; cases hp
    · intro _ s' c'
      exact wpAny_pure (k σ G s' Led.le.rfl (by rw [List.isEmpty_nil, Bool.not_true, Bool.or_false]; exact c'))
  | cons p ps ih =>
    intro b A F G₀ G s it acc ob St ps₀ i σ R rm I l0 hps st h1 hel c k
    obtain ⟨hp0, hps'⟩ := drop_head hps
    have ha : AssignR D (n + 1) cenv ((C, .frame σ) :: W) (.Name x xp) p ((C, .frame [(x, p)]) :: W) := AssignR.name (StoreR.one ok hk h1)
    refine codeAny_of_tree ?_
    show wpAny _ A ((compTurn (.SetComp elt [⟨.Name x xp, itx, [], 0⟩] scope pos) 0 (.ref it) (.ref acc) cenv).onRaise (fun x => do noteFrame x cenv; theTreesLotGoes x)) _ _ s
    refine wpAny_noted ?_
    rw [setTurn_eq]
    refine wpAny_bind (wpAny_standAt (wpAny_bind (I.step A (n + 1) F G _ ob s i _ _ rm c l0 st ?_ ?_)))
    · intro p' hp' G₁ o' v s₁ l₁ c₁ st₁ rv
      rw [hp0] at hp'; cases hp'
      refine wpAny_bind (I.owned st₁ ?_)
      have cs : Core D (foreign F s₁.heap [(it, .raw o'), (acc, .raw (setO led b))]) G₁ ((C, .frame σ) :: W) s₁ := Core.shut (W₁ := [(it, .raw o'), (acc, .raw (setO led b))]) c₁
      refine wpAny_bind (ha A _ G₁ s₁ v _ _ rm cs rv fun s₂ c₂ => ?_)
      refine wpAny_bind (wpAny_bind (hel p (.head _) A _ G₁ s₂ _ _ rm c₂ fun G₃ u s₃ l₃ c₃ ru => wpAny_bind (wpAny_standAt (wpAny_bind ?_))))
      cases ru
      have c₅ := Core.open (W₁ := [(it, .raw o'), (acc, .raw (setO led b))]) c₁ l₃ c₃
      have st₃ : St (i + 1) s₃.heap := I.at_ _ _ _ st₁ fun ox hx => by
        have h1 : s₁.heap.get? it = some o' := c₁.wok _ (.head _)
        have h2 : s₃.heap.get? it = some o' := c₅.wok _ (.head _)
        rw [h1] at hx; cases hx; exact h2
      have hacc : s₃.heap.get? acc = some (setO led b) := c₅.wok (acc, .raw (setO led b)) (.tail _ (.head _))
      refine setO_add (by have := rm.units; lia) hacc fun h' tk hs' ha' => wpAny_pure (wpAny_pure ⟨rfl, ?_⟩)
      have c₆ : Core D F G₃ ((it, .raw o') :: (acc, .raw (setO led true)) :: (C, .frame [(x, p)]) :: W) { s₃ with heap := h', toks := tk } := Core.put (W₁ := [(it, .raw o')]) c₅ hs' ha'
      have st₆ : St (i + 1) h' := I.at_ _ _ _ st₃ fun ox hx => by
        have h1 : s₃.heap.get? it = some o' := c₅.wok _ (.head _)
        have h2 : h'.get? it = some o' := c₆.wok _ (.head _)
        rw [h1] at hx; cases hx; exact h2
      refine ih true A F G₀ G₃ _ it acc o' St ps₀ (i + 1) [(x, p)] R rm I ((l0.trans l₁).trans l₃) hps' st₆ (.inr ⟨p, rfl⟩) (fun q hq => hel q (.tail _ hq)) c₆ fun σ' G' s' l' c' => k σ' G' s' ((l₁.trans l₃).trans l') ?_
      have e1 : (b || !(p :: ps).isEmpty) = true := by simp
      have e2 : (true || !ps.isEmpty) = true := rfl
      rw [e1]; rw [e2] at c'; exact c'
    · intro hp'; rw [hp0] at hp'; cases hp'
theorem wpAny_newSet {prog : Program} {w : World} {A : Around} {E : Value → Shared → Prop} {Q : Value → Shared → Prop} (h : Q (.ref s.heap.objs.size) { s with heap := s.heap.push (set0 (!(w.params.followText "set-order"))) }) :
    wpAny (model prog w) A (newSet (.type "set")) Q E s := by
  unfold newSet setsByText
  refine wpAny_bind (wpAny_bind (wpAny_askSetting (wpAny_pure ?_)))
  exact wpAny_newObj_type h
theorem ExecS.allTrue {x y : PySem.Str} {elt iter : Expr} {scope : Scope} {xp py tpos pos spos : Pos} {k' : Nat} {p : PV} {ps : List PV} (ok : EnvOk env L ns cl) (h1 : EvalR D (n + 1) env W iter p W₁) (h2 : IterR D (n + 1) p ps) (hne : ps.isEmpty = false)
    (hk : scope.kind = .function) (hcell : ∀ x ∈ scope.names, x.2 ≠ .cell) (hfree : freeIn cl scope.names) (hnames : ∀ x ∈ scope.names, x.2 = .local → scope.names.lookup x.1 = some .local) (hx : (relab ns scope.names).lookup x = some .local)
    (h4 : ∀ (C : Addr) (cenv : Env), EnvOk cenv C (relab ns scope.names) (closL cl scope.names []) → ∀ p ∈ ps, EvalR D (n + 1) cenv ((C, .frame [(x, p)]) :: W₁) elt (.bool true) ((C, .frame [(x, p)]) :: W₁))
    (h5 : StoreR D env W₁ y (.bool true) W₂) (hs : ∀ x, foldedSetIterable iter env x = pure x := by intro _; rfl) (hw : swappedStores [Expr.Tuple [.Name y py] k' tpos] (.SetComp elt [⟨.Name x xp, iter, [], 0⟩] scope pos) env = pure none := by rfl) :
    ExecS D (n + 1) env W (.Assign [Expr.Tuple [.Name y py] k' tpos] (.SetComp elt [⟨.Name x xp, iter, [], 0⟩] scope pos) spos) (.next W₂) := by
  intro A F G s Q E rm c k
  refine wpAny_Assign_stores ?_ rfl hw
  show wpAny _ A (comprehension (.SetComp elt [⟨.Name x xp, iter, [], 0⟩] scope pos) scope env _ (newSet (.type "set")) false (eval iter env)) _ _ s
  refine wpAny_comprehension_free (use := Option.none) rfl hs (by rw [closureFor_eq (ok.cells.symm ▸ hfree), ok.cells]) hk hnames ?_
  refine h1 A F G s _ E rm c fun G₁ v s₁ l₁ c₁ r₁ => h2 A F G₁ W₁ s₁ v _ E rm c₁ r₁ fun it ob G₂ St s₂ I l₂ c₂ st => ?_
  refine wpAny_newSet ?_
  generalize hled : (!(D.w.params.followText "set-order")) = led
  have hg : SetGo D.w led := by
    unfold SetGo
    cases hb : D.w.params.followText "set-order"
    · rw [hb] at hled; exact .inr hled.symm
    · exact .inl rfl
  have c₃ : Core D F G₂ ((s₂.heap.objs.size, .raw (set0 led)) :: (it, .raw ob) :: W₁) { s₂ with heap := s₂.heap.push (set0 led) } := c₂.newRaw (set0 led) rfl
  refine wpAny_newFunctionEnv hcell (by intro x hx; cases hx) (fun h' hns hsb => ?_) hk
  dsimp only at hns hsb ⊢
  have c₄ := c₃.new (t := s₂.toks + ([] : List (PySem.Str × Value)).length) (h' := h') (m := .frame []) (Nat.le_refl _) (fun a o e => hsb.extBut a o (Nat.ne_of_lt (Heap.lt_size e)) (Heap.get?_push_of_some _ e)) ⟨_, hns, fun x p e => by cases e⟩
  dsimp only at c₄
  generalize hC : (s₂.heap.push (set0 led)).objs.size = C at c₄ hns hsb ⊢
  generalize hacc : s₂.heap.objs.size = acc at c₄ hns hsb ⊢
  have eo : EnvOk { scope := relabel scope env, locals := C, globals := env.globals, cells := closL cl scope.names [], qual := env.qual, func := none, code := env.code, frame := env.frame, builtins := env.builtins } C (relab ns scope.names) (closL cl scope.names []) :=
    ⟨hk, fun x => by show (relabel scope env).names.lookup x = _; rw [relabel_names ok], rfl, ok.globals, ok.builtins, rfl⟩
  have c₅ : Core D F G₂ ((it, .raw ob) :: (acc, .raw (set0 led)) :: (C, .frame []) :: W₁) { s₂ with heap := h', toks := s₂.toks + ([] : List (PySem.Str × Value)).length } := by
    refine c₄.perm' ?_
    refine (List.Perm.cons _ (List.Perm.swap _ _ _)).trans ?_
    refine (List.Perm.swap _ _ _).trans ?_
    exact List.Perm.cons _ (List.Perm.swap _ _ _)
  have st₅ : St 0 h' := I.at_ _ _ _ st fun ox hx => by
    have h1 : s₂.heap.get? it = some ob := c₂.wok _ (.head _)
    have h2 : h'.get? it = some ob := c₅.wok _ (.head _)
    rw [h1] at hx; cases hx; exact h2
  refine codeAny_setStart_at (D := D) ?_ (fun Q E hQ => I.self _ _ 0 Q E st₅ hQ)
  refine setLoop (n := n) (W := W₁) (led := led) eo hx ps false A F G₂ G₂ _ it acc ob St ps 0 [] _ rm I Led.le.rfl rfl st₅ (.inl rfl) (h4 C _ eo) c₅ fun σ' G' s' l' c' => ?_
  have e1 : setO led (false || !ps.isEmpty) = set1 led := by rw [hne]; rfl
  rw [e1] at c'
  obtain ⟨m, hn, _⟩ := c'.wok (C, .frame σ') (.tail _ (.head _))
  refine ⟨m, hn, fun h'' hs'' => ?_⟩
  have c₆ : Core D F G' ((acc, .raw (set1 led)) :: W₁) { s' with heap := h'', toks := s'.toks } := Core.off (W₁ := [(acc, .raw (set1 led))]) (t := s'.toks) c' hs''.extBut
  have hacc₆ : h''.get? acc = some (set1 led) := c₆.wok _ (.head _)
  show wpAny _ _ (PySem.assign (Expr.Tuple [.Name y py] k' tpos) env (.ref acc)) _ _ _
  rw [arm_assign_Tuple]
  refine wpAny_bind (wpAny_standAt ?_)
  unfold unpack
  refine wpAny_bind (wpAny_holding (unpack_set1 rm.handled hg (s := { s' with heap := h'' }) hacc₆ fun h₇ he₇ => ?_))
  have c₇ : Core D F G' W₁ { s' with heap := h₇, toks := s'.toks } := Core.pop (c₆.grown (t := s'.toks) he₇)
  show wpAny _ _ (do holding [] (PySem.assign (.Name y py) env (.bool true)); pure ()) _ _ _
  refine wpAny_bind (wpAny_holding (wpAny_assign_Name (h5 A F G' _ (.bool true) _ E c₇ (.bool true) fun s₈ c₈ => wpAny_pure (k G' s₈ ((l₁.trans l₂).trans l') c₈))))
end
end

section
open PySem PySem.W PyProof.Rows PySem.Calls PyProof.V
section
variable {D : Wd} {n : Nat} {env cenv : Env} {L C : Addr} {ns : Kinds} {cl : List (PySem.Str × Addr)} {W W' W₁ W₂ W₃ : Wld} {F G : Led} {s : Shared}
noncomputable def enumOb (it : Addr) (i : Nat) (old : Value) : Obj := { cls := .type "enumerate", dict := none, data := .fields #[.none, .bool false, .ref it, rawInt i, .none, old], slots := #[] }
noncomputable def numbered' (ps : List PV) : List PV := ps.zipIdx.map fun p => .tup [.int p.2, p.1]
theorem numbered_get {ps : List PV} {i : Nat} {p : PV} (h : ps[i]? = some p) : (numbered' ps)[i]? = some (.tup [.int i, p]) := by
  unfold numbered'
  rw [List.getElem?_map, List.getElem?_zipIdx, h]
  simp
theorem ExecS.forEnum {ts : List Expr} {k' : Nat} {tpos p1 pos pos' : Pos} {a : PySem.Str} {el : Expr} {body orelse : List Stmt} {ps : List PV} {o : Out} (h1 : EvalR D n env W (.Name a p1) (.con (.type "enumerate")) W₁) (h2 : EvalsR D n env W₁ [el] [.list ps] W₂)
    (h3 : ForR D n env (.Tuple ts k' tpos) body orelse W₂ (numbered' ps) o) (hs : ∀ x, foldedSetIterable (.Call (.Name a p1) [el] [] pos') env x = pure x := by intro _; rfl) : ExecS D n env W (.For (.Tuple ts k' tpos) (.Call (.Name a p1) [el] [] pos') body orelse pos) o := by
  intro A F G s Q E rm c k
  refine wpAny_For (wpAny_Call_NameR (h1 A F G s _ E rm c fun G₁ fv s₁ l₁ c₁ rf => ?_)) hs
  obtain rfl := Rep.con_v rf
  refine callWith_flat (fun a e => by cases e) (h2.noStar (pos := pos')).1 (evalArgs_of (h2.noStar (pos := pos')).1 (h2.wp A F G₁ s₁ _ E rm c₁ fun G₂ vs s₂ l₂ c₂ rs => ?_))
  obtain ⟨v1, rfl, r1⟩ := RepAll.one rs
  obtain ⟨l, rfl⟩ := r1.list_ref
  obtain ⟨us, hl, rus⟩ := r1.isList c₂
  refine call_enumerate_list hl fun h' he' hit' hz' hk' => ?_
  generalize hI : s₂.heap.objs.size = it at he' hit' hz' hk' ⊢
  have hitm : ∃ oi, h'.get? it = some oi := ⟨_, hit'.choose_spec.1⟩
  obtain ⟨oi, hoi⟩ := hitm
  have hl' : h'.IsList l us.toArray := Heap.IsList.at hl (hk' l)
  have c₃ : Core D F G₂ ([(it + 1, .raw (enumOb it 0 .none)), (it, .raw oi)] ++ W₂) { s₂ with heap := h', toks := s₂.toks } := by
    refine c₂.news (t := s₂.toks) [(it + 1, .raw (enumOb it 0 .none)), (it, .raw oi)] hk' ?_ ?_ ?_
    · intro p hp
      simp only [List.mem_cons, List.not_mem_nil, or_false] at hp
      rcases hp with rfl | rfl
      · rw [hI]; exact Nat.le_succ _
      · exact Nat.le_of_eq hI
    · simp only [List.map_cons, List.map_nil, List.nodup_cons, List.mem_cons, List.not_mem_nil, or_false, not_false_eq_true, List.nodup_nil, and_true]
      exact Nat.succ_ne_self it
    · intro p hp
      simp only [List.mem_cons, List.not_mem_nil, or_false] at hp
      rcases hp with rfl | rfl
      · exact he'
      · exact hoi
  refine wpAny_pyIter_enum (s := { s₂ with heap := h' }) he' ?_
  refine codeAny_forLoop_any (fun m s => ∀ P : Prop, (∀ i oi old G' W', m = ps.length - i → G₂.le G' → Core D F G' ([(it + 1, .raw (enumOb it i old)), (it, .raw oi)] ++ W') s → s.heap.IsListIter it l i → ForR D n env (.Tuple ts k' tpos) body orelse W' ((numbered' ps).drop i) o → P) → P) ?_ _
    fun P k => k 0 oi .none G₂ W₂ rfl Led.le.rfl c₃ hit' h3
  intro m s' hinv
  refine hinv _ fun i oi old G' W' hm lg c' hit hf => ?_
  have kk : o.post D F G' Q := Out.post_le ((l₁.trans l₂).trans lg) k
  have hlen : (numbered' ps).length = ps.length := by unfold numbered'; simp
  have he : IsEnum s'.heap (it + 1) it i old := c'.wok (it + 1, .raw (enumOb it i old)) (.head _)
  have r' : Rep G' (.ref l) (.list ps) := r1.mono lg
  obtain ⟨us, hl, rus⟩ := r'.isList c'
  cases hp : ps[i]? with
  | some p =>
    obtain ⟨v, hv, rv⟩ := rus.get i p hp
    have hlt : i < ps.length := (List.getElem?_eq_some_iff.mp hp).1
    have hd : (numbered' ps).drop i = .tup [.int i, p] :: (numbered' ps).drop (i + 1) := by
      rw [List.drop_eq_getElem_cons (by lia)]
      congr 1
      have := numbered_get hp
      rw [List.getElem?_eq_getElem (by lia)] at this
      exact Option.some.inj this
    refine wpAny_pyNext_enum_item he hit hl (x := v) (by simpa using hv) (Nat.succ_ne_self it) fun h₁ heo hit₁ ht₁ hz₁ hk₁ => ?_
    refine wpAny_letOwnedTupleGo_enum heo fun h₂ he₂ hs₂ => ?_
    replace hs₂ : Heap.SameBut (it + 1) h₁ h₂ := hs₂
    have hlt1 : it + 1 < s'.heap.objs.size := Heap.lt_size he
    have ht₂ : h₂.get? s'.heap.objs.size = some { cls := .type "tuple", data := .seq #[.int i s'.toks, v] } := (hs₂.2 _ (Nat.ne_of_gt hlt1)).trans ht₁
    have hit₂ : h₂.IsListIter it l (i + 1) := hit₁.extBut hs₂.extBut (Ne.symm (Nat.succ_ne_self it))
    obtain ⟨oi₂, hoi₂, _⟩ := id hit₂
    have hk₂ : ∀ b o, b ≠ it + 1 → b ≠ it → s'.heap.get? b = some o → h₂.get? b = some o := fun b o h1 h2 e => hs₂.extBut b o h1 (hk₁ b o h1 h2 e)
    have c₄ : Core D F G' ([(it + 1, .raw (enumOb it (i + 1) v)), (it, .raw oi₂)] ++ W') { s' with heap := h₂, toks := s'.toks + 1 } := by
      refine c'.upd (N' := [(it + 1, .raw (enumOb it (i + 1) v)), (it, .raw oi₂)]) (t := s'.toks + 1) rfl (fun b o hb e => hk₂ b o (fun q => hb _ (.head _) q.symm) (fun q => hb _ (.tail _ (.head _)) q.symm) e) ?_
      intro p hp
      simp only [List.mem_cons, List.not_mem_nil, or_false] at hp
      rcases hp with rfl | rfl
      · have e1 : ((i + 1 : Nat) : Int) = (i : Int) + 1 := by lia
        show h₂.get? (it + 1) = some (enumOb it (i + 1) v)
        unfold enumOb
        rw [e1]; exact he₂
      · exact hoi₂
    have c₅ := Core.freeze c₄ ht₂ (c'.fresh_F (Nat.le_refl _)) (fun p hp e => by
      have : p ∈ [(it + 1, MO.raw (enumOb it (i + 1) v)), (it, MO.raw oi₂)] ++ W' := hp
      simp only [List.cons_append, List.nil_append, List.mem_cons] at this
      rcases this with rfl | rfl | h
      · exact Nat.ne_of_lt hlt1 e
      · exact Nat.ne_of_lt (Nat.lt_of_succ_lt hlt1) e
      · exact c'.fresh_W (Nat.le_refl _) p (List.mem_append.mpr (.inr h)) e)
    have rt : Rep (G'.add s'.heap.objs.size { cls := .type "tuple", data := .seq #[.int i s'.toks, v] }) (.ref s'.heap.objs.size) (.tup [.int i, p]) :=
      .tup (vs := [.int i s'.toks, v]) (.inr ⟨rfl, rfl⟩) rfl rfl (.cons (.int _ _) (.cons (rv.mono Led.le_add) .nil))
    have cs := Core.shut (W₁ := [(it + 1, .raw (enumOb it (i + 1) v)), (it, .raw oi₂)]) (W₂ := W') c₅
    have reopen : ∀ {G₃ : Led} {W₃ : Wld} {s₃ : Shared}, (G'.add s'.heap.objs.size { cls := .type "tuple", data := .seq #[.int i s'.toks, v] }).le G₃ → Core D (foreign F h₂ [(it + 1, .raw (enumOb it (i + 1) v)), (it, .raw oi₂)]) G₃ W₃ s₃ →
        Core D F G₃ ([(it + 1, .raw (enumOb it (i + 1) v)), (it, .raw oi₂)] ++ W₃) s₃ ∧ s₃.heap.IsListIter it l (i + 1) := fun {G₃ W₃ s₃} l₃ c₃ => by
      have c₆ := Core.open (W₁ := [(it + 1, .raw (enumOb it (i + 1) v)), (it, .raw oi₂)]) c₅ l₃ c₃
      refine ⟨c₆, hit₂.at fun ox hx => ?_⟩
      have h2 : s₃.heap.get? it = some oi₂ := c₆.wok (it, .raw oi₂) (.tail _ (.head _))
      rw [hoi₂] at hx; cases hx; exact h2
    rw [hd] at hf
    refine hf.turn rm cs rt (fun G₄ s₄ W₄ l₄ c₄ hr => ?_) (fun G₄ s₄ W₄ l₄ c₄ e => ?_) (fun G₄ s₄ W₄ q u l₄ c₄ ru e => ?_)
    · have c₅ := reopen l₄ c₄
      have hm' : ps.length - (i + 1) < m := by lia
      exact ⟨⟨_, hm', fun P k => k (i + 1) oi₂ v G₄ W₄ rfl ((lg.trans Led.le_add).trans l₄) c₅.1 c₅.2 hr⟩, ⟨_, hm', fun P k => k (i + 1) oi₂ v G₄ W₄ rfl ((lg.trans Led.le_add).trans l₄) c₅.1 c₅.2 hr⟩⟩
    · subst e; exact kk G₄ s₄ (Led.le_add.trans l₄) (reopen l₄ c₄).1.pop.pop
    · subst e; exact kk G₄ u s₄ (Led.le_add.trans l₄) (reopen l₄ c₄).1.pop.pop ru
  | none =>
    have hv : us.toArray[i]? = none := by
      rw [List.getElem?_toArray, List.getElem?_eq_none_iff, rus.length]
      exact List.getElem?_eq_none_iff.mp hp
    refine wpAny_pyNext_enum_end rm.handled he hit hl hv fun h₁ he₁ => ?_
    have c₄ : Core D F G' W' { s' with heap := h₁, toks := s'.toks } := Core.gone (N := [(it + 1, .raw (enumOb it i old)), (it, .raw oi)]) c' fun b o hb e => he₁ b o (fun q => hb _ (.tail _ (.head _)) q.symm) e
    have hd : (numbered' ps).drop i = [] := by
      exact List.drop_of_length_le (by rw [hlen]; exact List.getElem?_eq_none_iff.mp hp)
    rw [hd] at hf
    cases hf with
    | done h => exact wpAny_mono (h A F G' _ Q (fun _ _ => False) rm c₄ kk) (fun f s₃ hq => hq) (fun _ _ e => e.elim)
end
end

section
open PySem PySem.W PyProof.Rows PySem.Calls PyProof.V
section
variable {D : Wd} {n : Nat} {env cenv : Env} {L C : Addr} {ns : Kinds} {cl : List (PySem.Str × Addr)} {W W' W₁ W₂ W₃ : Wld} {F G : Led} {s : Shared}
theorem TruthR.tup {ps : List PV} (hz : ps.length ≤ 1000000) : TruthR D n (.tup ps) (!ps.isEmpty) := fun A F G W s x Q E rm c rx k => by
  obtain ⟨a, rfl⟩ := rx.tup_ref
  obtain ⟨vs, hl, rs⟩ := rx.isTup c
  refine truthy_tuple hl (by rw [List.size_toArray, rs.length]; lia) ?_
  have e : (!vs.toArray.isEmpty) = !ps.isEmpty := by
    have := rs.length
    cases vs <;> cases ps <;> simp_all
  rw [e]; exact k G _ Led.le.rfl (c.toks _)
structure PartS (xs ys : List PySem.Str) (d : Nat) (x y : PySem.Str) : Prop where
  pre : ∀ i < d, ∃ z, xs[i]? = some z ∧ ys[i]? = some z
  l : xs[d]? = some x
  r : ys[d]? = some y
  ne : x ≠ y
theorem PartS.symm {xs ys : List PySem.Str} {d : Nat} {x y : PySem.Str} (h : PartS xs ys d x y) : PartS ys xs d y x := ⟨fun i hi => let ⟨z, a, b⟩ := h.pre i hi; ⟨z, b, a⟩, h.r, h.l, fun e => h.ne e.symm⟩
theorem repStr {G : Led} {v : Value} {x : PySem.Str} (r : Rep G v (.str x)) : ∃ t, v = .str x t := by cases r; exact ⟨_, rfl⟩
theorem PartS.at {G : Led} {vs us : List Value} {xs ys : List PySem.Str} {d : Nat} {x y : PySem.Str} (h : PartS xs ys d x y) (ra : RepAll G vs (xs.map PV.str)) (rb : RepAll G us (ys.map PV.str)) : PartAt vs.toArray us.toArray d x y := by
  have get : ∀ {vs : List Value} {xs : List PySem.Str}, RepAll G vs (xs.map PV.str) → ∀ (i : Nat) (z : PySem.Str), xs[i]? = some z → ∃ t, (vs.toArray : Array Value)[i]? = some (Value.str z t) := by
    intro vs xs r i z hz
    obtain ⟨v, hv, rv⟩ := r.get i (PV.str z) (by rw [List.getElem?_map, hz]; rfl)
    obtain ⟨t, rfl⟩ := repStr rv
    exact ⟨t, by simpa using hv⟩
  refine ⟨fun i hi => ?_, get ra d x h.l, get rb d y h.r, h.ne⟩
  obtain ⟨z, a, b⟩ := h.pre i hi
  obtain ⟨t, ht⟩ := get ra i z a
  obtain ⟨u, hu⟩ := get rb i z b
  exact ⟨z, t, u, ht, hu⟩
theorem CallR.min2 {xs ys : List PySem.Str} {d : Nat} {x y : PySem.Str} (hp : PartS xs ys d x y) : CallR D (n + 1) W (.builtin "min") [.list [PV.list (xs.map PV.str), PV.list (ys.map PV.str)]] [] (.list ((if y.cps.toList < x.cps.toList then ys else xs).map PV.str)) W := CallR.of1 fun A F G W s a Q E rm c r k => by
  obtain ⟨l, rfl⟩ := r.list_ref
  obtain ⟨vs, hl, rs⟩ := r.isList c
  obtain ⟨v1, v2, rfl, r1, r2⟩ := RepAll.two rs
  obtain ⟨a1, rfl⟩ := r1.list_ref
  obtain ⟨a2, rfl⟩ := r2.list_ref
  obtain ⟨us1, h1, ru1⟩ := r1.isList c
  obtain ⟨us2, h2, ru2⟩ := r2.isList c
  refine min_two (bb := decide (y.cps.toList < x.cps.toList)) rm.handled hl (fun s' Q' E' hk q => ?_) fun h' hk => ?_
  · refine rc_lt (Heap.IsList.at h2 (hk _)) (Heap.IsList.at h1 (hk _)) (hp.symm.at ru2 ru1) ?_ q
    have := rm.units; show A.units + 1 < cLine; lia
  · refine k G _ _ Led.le.rfl (c.grow (t := s.toks) hk) ?_
    by_cases h : y.cps.toList < x.cps.toList
    · rw [if_pos h, if_pos (decide_eq_true h)]; exact r2
    · rw [if_neg h, if_neg (by rw [decide_eq_false h]; exact Bool.false_ne_true)]; exact r1
theorem CallR.max2 {xs ys : List PySem.Str} {d : Nat} {x y : PySem.Str} (hp : PartS xs ys d x y) : CallR D (n + 1) W (.builtin "max") [.list [PV.list (xs.map PV.str), PV.list (ys.map PV.str)]] [] (.list ((if x.cps.toList < y.cps.toList then ys else xs).map PV.str)) W := CallR.of1 fun A F G W s a Q E rm c r k => by
  obtain ⟨l, rfl⟩ := r.list_ref
  obtain ⟨vs, hl, rs⟩ := r.isList c
  obtain ⟨v1, v2, rfl, r1, r2⟩ := RepAll.two rs
  obtain ⟨a1, rfl⟩ := r1.list_ref
  obtain ⟨a2, rfl⟩ := r2.list_ref
  obtain ⟨us1, h1, ru1⟩ := r1.isList c
  obtain ⟨us2, h2, ru2⟩ := r2.isList c
  refine max_two (bb := decide (x.cps.toList < y.cps.toList)) rm.handled hl (fun s' Q' E' hk q => ?_) fun h' hk => ?_
  · refine rc_gt (Heap.IsList.at h2 (hk _)) (Heap.IsList.at h1 (hk _)) (hp.symm.at ru2 ru1) ?_ q
    have := rm.units; show A.units + 1 < cLine; lia
  · refine k G _ _ Led.le.rfl (c.grow (t := s.toks) hk) ?_
    by_cases h : x.cps.toList < y.cps.toList
    · rw [if_pos h, if_pos (decide_eq_true h)]; exact r2
    · rw [if_neg h, if_neg (by rw [decide_eq_false h]; exact Bool.false_ne_true)]; exact r1
end
end

section
open PySem PySem.W PyProof.Rows PySem.Calls
-- Lines for walk_at, many in one text. A row is KEY: ALT | ALT ..; an ALT is @KEY (go on there), or words: a lemma's name and what it is given (* is by assumption, a number is a hole), and behind a semicolon each hole that is closed at once, with the KEY that closes it.
open Lean
set_option compiler.extract_closed false
def lineGo (k : String) : MacroM (TSyntax `tactic) := do
  let i := ["krfl", "urfl", "rfl", "irfl", "as", "asm", "dec", "lia", "iev", "itest", "ble", "isn", "dn"].idxOf k
  if i == 13 then return ← `(tactic| walk_at $(quote ("m." ++ k)))
  let t ← `(tactic| (kernel_rfl; (with_unfolding_all rfl); rfl; (intro _; rfl); (with_reducible assumption); assumption; decide; lia; (intro _; walk_at "m.ev"); (intro _; walk_at "m.test"); exact Nat.le_of_ble_eq_true rfl; (intro v e; cases e); ((repeat walk_at "m.nil"); walk_at "m.done")))
  return ⟨t.raw[1][0][0][2 * i]⟩
def lineHole (t : String) : MacroM Ident := return mkIdent (← Macro.addMacroScope (Name.mkSimple ("k" ++ t)))
def lineApp (a : List Term) : Term := let a := a.reverse.toArray; Syntax.mkApp (a.getD 0 ⟨.missing⟩) (a.extract 1 a.size)
def lineTerm (ws : List String) : MacroM Term := do
  let r ← ws.foldlM (init := (([] : List Term), ([] : List (List Term)))) fun (a, st) w => do
    if w == "(" then return ([], a :: st)
    if w == ")" then return ((← `(($(lineApp a)))) :: st.headD [], st.tail)
    let e ← if w == "*" then `(by assumption) else if w == "_" then `(_) else if w.isNat then `(?$(← lineHole w)) else do pure (mkCIdent ((← Macro.resolveGlobalName w.toName).headD default).1)
    return (e :: a, st)
  return lineApp r.1
def lineWords (s : String) : List String := (s.splitOn " ").filter (· != "")
def lineAlt (s : String) : MacroM (TSyntax `tactic) := do
  match (s.splitOn ";").map lineWords with
  | ["@", k] :: _ => lineGo k
  | c :: d =>
    let e ← lineTerm c
    let t ← if c.any String.isNat then `(tactic| with_reducible refine' $e) else `(tactic| with_reducible exact $e)
    let ws := d.headD []
    let as ← ((ws.zip ws.tail).filter fun p => p.1.isNat).mapM fun (n, k) => do `(tactic| case $(← lineHole n):ident => $(← lineGo k):tactic)
    `(tactic| ($t:tactic; $[$(as.toArray)]*))
  | [] => Macro.throwUnsupported
def lines (s : TSyntax `str) (tab : String) : MacroM (TSyntax `tactic) := do
  let l := (tab.splitOn "\n").reverse.flatMap fun l => match l.splitOn ": " with
    | [c, d] => if "m." ++ c == s.getString then d.splitOn "|" else []
    | _ => []
  if l.isEmpty then Macro.throwUnsupported
  let as ← l.mapM lineAlt
  `(tactic| first $[| $(as.toArray):tactic]*)
end

set_option compiler.extract_closed false
local macro_rules | `(tactic| walk_at $s) => lines s "neq: @ krfl
look: look_here | look_there 1 2 ; 1 krfl 2 look
put: Put.here | Put.nil | Put.there 1 2 ; 1 krfl 2 put
get: WGet.here | WGet.there 1 ; 1 get
wput: WPut.here | @ as | WPut.there 1 ; 1 wput
glob: n_pretty_flags 1 2 3 ; 1 asm 2 asm 3 krfl | n_parse_varint 1 2 3 ; 1 asm 2 asm 3 krfl | n_fspath 1 2 3 ; 1 asm 2 asm 3 krfl | n_get_sep 1 2 3 ; 1 asm 2 asm 3 krfl | n_join_posixpath 1 2 3 ; 1 asm 2 asm 3 krfl | n_basename 1 2 3 ; 1 asm 2 asm 3 krfl | n_dirname_posixpath 1 2 3 ; 1 asm 2 asm 3 krfl | n_commonpath 1 2 3 ; 1 asm 2 asm 3 krfl | n_find_unsafe 1 2 3 ; 1 asm 2 asm 3 krfl | n_StringIO 1 2 3 ; 1 asm 2 asm 3 krfl | n_shlex 1 2 3 ; 1 asm 2 asm 3 krfl | n_split 1 2 3 ; 1 asm 2 asm 3 krfl | n_quote 1 2 3 ; 1 asm 2 asm 3 krfl | n_law_octets 1 2 3 ; 1 asm 2 asm 3 krfl | n_law_depth 1 2 3 ; 1 asm 2 asm 3 krfl | n_law_given 1 2 3 ; 1 asm 2 asm 3 krfl | n_law_back 1 2 3 ; 1 asm 2 asm 3 krfl | n_law_order 1 2 3 ; 1 asm 2 asm 3 krfl | n_COMPILER_FLAG_NAMES 1 2 3 ; 1 asm 2 asm 3 krfl | n_index 1 2 3 ; 1 asm 2 asm 3 krfl | n_deque 1 2 3 ; 1 asm 2 asm 3 krfl | n_len 1 2 3 ; 1 asm 2 asm 3 krfl | n_range 1 2 3 ; 1 asm 2 asm 3 krfl | n_sum 1 2 3 ; 1 asm 2 asm 3 krfl | n_iter 1 2 3 ; 1 asm 2 asm 3 krfl | n_next 1 2 3 ; 1 asm 2 asm 3 krfl | n_bytes 1 2 3 ; 1 asm 2 asm 3 krfl | n_hex 1 2 3 ; 1 asm 2 asm 3 krfl | n_type 1 2 3 ; 1 asm 2 asm 3 krfl | n_str 1 2 3 ; 1 asm 2 asm 3 krfl | n_issubclass 1 2 3 ; 1 asm 2 asm 3 krfl | n_isinstance 1 2 3 ; 1 asm 2 asm 3 krfl | n_tuple 1 2 3 ; 1 asm 2 asm 3 krfl | n_map 1 2 3 ; 1 asm 2 asm 3 krfl | n_min 1 2 3 ; 1 asm 2 asm 3 krfl | n_max 1 2 3 ; 1 asm 2 asm 3 krfl | n_enumerate 1 2 3 ; 1 asm 2 asm 3 krfl | n_list 1 2 3 ; 1 asm 2 asm 3 krfl | n_int 1 2 3 ; 1 asm 2 asm 3 krfl | n_bool 1 2 3 ; 1 asm 2 asm 3 krfl | n_object 1 2 3 ; 1 asm 2 asm 3 krfl
name: EvalR.loc * 1 2 3 4 ; 1 krfl 2 get 3 look 4 krfl | EvalR.cell * 1 2 3 4 ; 1 krfl 2 look 3 get 4 krfl | @ glob
fact: @ as | @ lia | @ dec
op: OpR.addi | OpR.subi | OpR.lti | OpR.lei | OpR.gti | OpR.gei | OpR.modi 1 ; 1 fact | OpR.floordivi 1 2 ; 1 fact 2 pyl | OpR.andi | OpR.iori | OpR.ixori | OpR.powi 1 2 3 ; 1 fact 2 fact 3 fact | OpR.lshifti 1 2 3 ; 1 fact 2 fact 3 fact | OpR.ilshifti 1 2 3 ; 1 fact 2 fact 3 fact | OpR.eqs | OpR.nes | OpR.ins | OpR.notins | OpR.adds 1 ; 1 fact | OpR.iadds 1 ; 1 fact | OpR.muls 1 ; 1 fact | OpR.inl | OpR.notinl | OpR.addl 1 ; 1 fact
ev: EvalR.int | EvalR.strc | EvalR.none | EvalR.boolc | @ name | EvalR.bin 1 2 3 ; 1 ev 2 ev 3 op | EvalR.cmp 1 2 3 4 ; 1 ev 2 ev 3 op 4 urfl | EvalR.list 1 2 ; 1 evs 2 dec | EvalR.tup 1 2 ; 1 evs 2 dec | @ own
evs: EvalsR.nil | EvalsR.cons 1 2 3 ; 1 urfl 2 ev 3 evs
con: @ asm | CallR.isBytes | CallR.isStr | CallR.issub | CallR.range1 | CallR.typeOf 1 2 ; 1 rfl 2 krfl | CallR.lens 21 ; 21 fact | CallR.lenl 21 ; 21 fact
keep: keepB | keepT | Wd.Fit.keep * 1 ; 1 urfl
truth: TruthR.bool | TruthR.int | TruthR.none | TruthR.str 21 ; 21 fact
test: TestR.cmp 1 2 3 4 ; 1 ev 2 ev 3 op 4 urfl | TestR.not 1 ; 1 test | TestR.or 1 2 ; 1 test 2 itest | TestR.and 1 2 ; 1 test 2 itest | TestR.val 1 2 3 ; 1 ev 2 truth 3 irfl
part: PartR.none | PartR.some 1 ; 1 ev
own: EvalR.call 1 2 3 4 ; 1 glob 2 keep 3 evs 4 con | E.startswith 1 2 3 4 5 ; 1 ev 2 evs 3 irfl 4 dec 5 rfl | E.endswith 1 2 3 4 5 ; 1 ev 2 evs 3 irfl 4 dec 5 rfl | E.rfind 1 2 3 4 5 ; 1 ev 2 evs 3 irfl 4 dec 5 rfl | E.rstrip 0 1 2 3 4 5 ; 1 ev 2 evs 0 fact 3 irfl 4 dec 5 rfl | E.join 1 2 0 3 4 5 ; 1 ev 2 evs 0 fact 3 irfl 4 dec 5 rfl | E.split 0 9 1 2 3 4 5 ; 1 ev 2 evs 0 krfl 9 fact 3 irfl 4 dec 5 rfl | E.cut 1 2 3 4 ; 1 ev 2 part 3 part 4 fact | E.upto 1 2 3 4 ; 1 ev 2 ev 3 fact 4 fact | E.from 1 2 3 4 ; 1 ev 2 ev 3 fact 4 fact | E.iteml 1 2 3 4 5 ; 1 ev 2 ev 3 fact 4 fact 5 fact | E.itemt 1 2 3 4 5 ; 1 ev 2 ev 3 fact 4 fact 5 fact | E.items 1 2 3 4 5 ; 1 ev 2 ev 3 fact 4 fact 5 fact
store: StoreR.cell * 1 2 3 ; 2 look 1 krfl 3 wput | StoreR.loc * 1 2 3 ; 1 krfl 2 wput 3 put
sub: List.Sublist.refl _ | List.Sublist.cons _ 1 ; 1 sub
subsig: SubSig.nil | SubSig.cons 1 ; 1 subsig
x: ExecK.done | ExecK.nil 21 | ExecK.if 1 2 3 ; 1 test | ExecK.retF 1 ; 1 ev | ExecK.retS 1 2 ; 1 ev 2 sub | ExecK.brk | ExecK.assign 1 2 4 3 ; 1 ev 2 store 3 rfl | ExecK.expr * 1 4 3 ; 1 ev 3 rfl | ExecK.aug 1 2 3 4 5 6 ; 1 iev 2 ev 3 op 4 store 6 dec
pyl: PyProof.noPylong_small 1 ; 1 dec"
section
open PySem PySem.W PyProof.Rows PySem.Calls
section
variable {D : Wd} {n : Nat}
theorem octets_spec (f : D.Fit) (i : Int) : CallR D (n + 1) [] (.ref 887) [.int i] [] (.list (if i < 64 then [.int i] else [.int (64 + i.fdiv 64), .int (i.fmod 64)])) [] := by
  refine' CallR.k f 887 ["number"] ?e ?hb ?hc ?hok rfl (bind1 ?hbind) ?h
  case e => with_unfolding_all rfl
  case hb => rfl
  case hc => kernel_rfl
  case hok => kernel_rfl
  case hbind => intro v; with_unfolding_all rfl
  case h =>
    intro L env ok
    dsimp only [List.zip_cons_cons, List.zip_nil_left] at ok ⊢
    refine' ⟨_, ExecR.stop (ExecS.ret (EvalR.ite (b := decide (i < 64)) ?h1 ?h2 ?h3))⟩
    case h1 => walk_at "m.test"
    case h2 =>
      intro h
      rw [if_pos (of_decide_eq_true h)]
      walk_at "m.ev"
    case h3 =>
      intro h
      rw [if_neg (of_decide_eq_false h)]
      walk_at "m.ev"
end
end

section
open PySem PySem.W PyProof.Rows PySem.Calls
section
variable {D : Wd} {n : Nat} {W : Wld}
theorem get_sep_spec (f : D.Fit) (x : PySem.Str) : CallR D (n + 1) W (.ref 146) [.str x] [] (.str "/") W := by
  refine' CallR.kf f 146 ["path"] ?e ?hb ?hc ?hok rfl (bind1 ?hbind) ?h
  case e => with_unfolding_all rfl
  case hb => rfl
  case hc => kernel_rfl
  case hok => kernel_rfl
  case hbind => intro v; with_unfolding_all rfl
  case h =>
    intro L env ok
    dsimp only [List.zip_cons_cons, List.zip_nil_left] at ok ⊢
    refine' ExecK.run ?hh
    case hh =>
      walk_at "m.x"
      case k2 => intro h; cases h
      case k3 => intro h; walk_at "m.x"
theorem get_sep_c (f : D.Fit) {x : PySem.Str} (hn : 1 ≤ n) : CallR D n W (.ref 146) [.str x] [] (.str "/") W := (get_sep_spec (n := 0) f x).mono hn
theorem fspath_spec (f : D.Fit) (x : PySem.Str) : CallR D (n + 1) W (.ref 132) [.str x] [] (.str x) W := by
  refine' CallR.kf f 132 ["path"] ?e ?hb ?hc ?hok rfl (bind1 ?hbind) ?h
  case e => with_unfolding_all rfl
  case hb => rfl
  case hc => kernel_rfl
  case hok => kernel_rfl
  case hbind => intro v; with_unfolding_all rfl
  case h =>
    intro L env ok
    dsimp only [List.zip_cons_cons, List.zip_nil_left] at ok ⊢
    refine' ExecK.run ?hh
    case hh =>
      walk_at "m.x"
      walk_at "m.x"
      case k2 => intro h; walk_at "m.x"
      case k3 => intro h; cases h
theorem fspath_c (f : D.Fit) {x : PySem.Str} (hn : 1 ≤ n) : CallR D n W (.ref 132) [.str x] [] (.str x) W := (fspath_spec (n := 0) f x).mono hn
local macro_rules | `(tactic| walk_at $s) => lines s "con: get_sep_c * 1 ; 1 lia | fspath_c * 1 ; 1 lia"
theorem mulOk1 {x : PySem.Str} {m : Nat} (hx : x.length = 1) (hm : m ≤ 1000000) : MulOk x (m : Int) := by
  have e : (2 : Nat) ^ 24 = 16777216 := by decide
  refine ⟨?_, fun h1 h2 => ?_, fun h1 h2 => ?_⟩
  · rw [Bool.or_eq_false_iff]; exact ⟨decide_eq_false (by lia), decide_eq_false (by lia)⟩
  · rw [hx]
    intro h
    have : (1 : Int) ≤ (2 ^ 63 - 1) / (m : Int) := by
      rw [Int.le_ediv_iff_mul_le (by lia)]
      lia
    lia
  · rw [hx, Nat.one_mul]
    unfold Builtin.Str.tooLong sizeLine
    exact decide_eq_false (by lia)
noncomputable def basenameP (x : PySem.Str) : PySem.Str := Txt.slice x (some (Txt.rfind x "/" + 1)) none
theorem basename_spec (f : D.Fit) (x : PySem.Str) (hz : x.length ≤ 1000000) : CallR D (n + 2) W (.ref 160) [.str x] [] (.str (basenameP x)) W := by
  unfold basenameP
  refine' CallR.kf f 160 ["p"] ?e ?hb ?hc ?hok rfl (bind1 ?hbind) ?h
  case e => with_unfolding_all rfl
  case hb => rfl
  case hc => kernel_rfl
  case hok => kernel_rfl
  case hbind => intro v; with_unfolding_all rfl
  case h =>
    intro L env ok
    dsimp only [List.zip_cons_cons, List.zip_nil_left] at ok ⊢
    refine' ExecK.run ?hh
    case hh =>
      walk_at "m.x"
      walk_at "m.x"
      walk_at "m.x"
      walk_at "m.x"
theorem basename_c (f : D.Fit) {x : PySem.Str} (hz : x.length ≤ 1000000) (hn : 2 ≤ n) : CallR D n W (.ref 160) [.str x] [] (.str (basenameP x)) W := (basename_spec (n := 0) f x hz).mono hn
noncomputable def headP (x : PySem.Str) : PySem.Str := Txt.slice x none (some (Txt.rfind x "/" + 1))
noncomputable def dirnameP (x : PySem.Str) : PySem.Str := if ((headP x).length != 0 && headP x != Txt.mul "/" (headP x).length) = true then Txt.rstripChars (headP x) "/" else headP x
theorem dirname_spec (f : D.Fit) (x : PySem.Str) (hz : x.length ≤ 1000000) : CallR D (n + 2) W (.ref 167) [.str x] [] (.str (dirnameP x)) W := by
  have hz2 : (headP x).length ≤ 1000000 := Nat.le_trans (Txt.slice_le _ _ _) hz
  have hm : MulOk "/" ((headP x).length : Int) := mulOk1 (by decide) hz2
  unfold dirnameP
  refine' CallR.kf f 167 ["p"] ?e ?hb ?hc ?hok rfl (bind1 ?hbind) ?h
  case e => with_unfolding_all rfl
  case hb => rfl
  case hc => kernel_rfl
  case hok => kernel_rfl
  case hbind => intro v; with_unfolding_all rfl
  case h =>
    intro L env ok
    dsimp only [List.zip_cons_cons, List.zip_nil_left] at ok ⊢
    refine' ExecK.run ?hh
    case hh =>
      walk_at "m.x"
      walk_at "m.x"
      walk_at "m.x"
      walk_at "m.x"
      change ExecK _ _ _ _ [(Stmt.If _ _ _ _ :: _)] _
      rw [show Txt.slice x none (some (Txt.rfind x "/" + 1)) = headP x from rfl]
      walk_at "m.x"
      case k2 =>
        intro h
        rw [if_pos h]
        walk_at "m.x"
        walk_at "m.x"
        walk_at "m.x"
      case k3 =>
        intro h
        rw [if_neg (by rw [h]; exact Bool.false_ne_true)]
        walk_at "m.x"
        walk_at "m.x"
theorem dirname_c (f : D.Fit) {x : PySem.Str} (hz : x.length ≤ 1000000) (hn : 2 ≤ n) : CallR D n W (.ref 167) [.str x] [] (.str (dirnameP x)) W := (dirname_spec (n := 0) f x hz).mono hn
end
end

local macro_rules | `(tactic| walk_at $s) => lines s "con: get_sep_c * 21 ; 21 lia | fspath_c * 21 ; 21 lia | basename_c * 21 22 ; 21 fact 22 lia | dirname_c * 21 22 ; 21 fact 22 lia | depth_c * 21 22 ; 21 fact 22 lia"
section
open PySem PySem.W PyProof.Rows PySem.Calls
section
variable {D : Wd} {n : Nat} {W : Wld}
theorem split_length_le (x y : PySem.Str) : (Txt.split x y).length ≤ x.length + 2 := by
  have h1 := StrLaws.occ_length_le x y 0 x.length (x.length + 1)
  have h2 : ∀ (l : List Nat) (x : PySem.Str) (m : Nat), (Builtin.Str.partsBetween x l m).length = l.length + 1 := by
    intro l x m; unfold Builtin.Str.partsBetween; simp
  unfold Txt.split
  split
  · simp
  · split
    · simp
    · rw [h2]; lia
noncomputable def partsP (x : PySem.Str) : List PySem.Str := (Txt.split x "/").filter fun (y : PySem.Str) => y != ""
noncomputable def depthP (x : PySem.Str) : Nat := (partsP x).length
noncomputable def keepName (p : PV) : Option PV := match p with | .str y => if (y != "") = true then some p else Option.none | _ => Option.none
theorem keepName_map (l : List PySem.Str) : (l.map PV.str).filterMap keepName = (l.filter fun (y : PySem.Str) => y != "").map .str := by
  induction l with
  | nil => rfl
  | cons y l ih =>
    rw [List.map_cons, List.filterMap_cons, List.filter_cons]
    unfold keepName at ih ⊢
    by_cases h : (y != "") = true
    · simp only [h, if_true]; rw [List.map_cons, ← ih]
    · simp only [h]; exact ih
theorem keepName_none {y : PySem.Str} (h : keepName (.str y) = Option.none) : (y != "") = false := by
  have h' : (if (y != "") = true then some (PV.str y) else Option.none) = Option.none := h
  cases hb : (y != "")
  · rfl
  · rw [hb] at h'; cases h'
theorem keepName_some {y : PySem.Str} {q : PV} (h : keepName (.str y) = some q) : (y != "") = true ∧ q = .str y := by
  have h' : (if (y != "") = true then some (PV.str y) else Option.none) = some q := h
  cases hb : (y != "")
  · rw [hb] at h'; cases h'
  · rw [hb] at h'; cases h'; exact ⟨rfl, rfl⟩
theorem depth_spec (f : D.Fit) (x : PySem.Str) (hz : x.length ≤ 900000) : CallR D (n + 1) W (.ref 892) [.str x] [] (.int (depthP x)) W := by
  have hz' : x.length ≤ 1000000 := by lia
  have hl : ((partsP x).map PV.str).length ≤ 1000000 := by
    rw [List.length_map]; unfold partsP
    have := List.length_filter_le (fun y : PySem.Str => y != "") (Txt.split x "/")
    have := split_length_le x "/"
    lia
  have hd : ((depthP x : Nat) : Int) = (((partsP x).map PV.str).length : Int) := by rw [List.length_map]; rfl
  rw [hd]
  refine' CallR.kf f 892 ["place"] ?e ?hb ?hc ?hok rfl (bind1 ?hbind) ?h
  case e => with_unfolding_all rfl
  case hb => rfl
  case hc => kernel_rfl
  case hok => kernel_rfl
  case hbind => intro v; with_unfolding_all rfl
  case h =>
    intro L env ok
    dsimp only [List.zip_cons_cons, List.zip_nil_left] at ok ⊢
    refine' ExecK.run ?hh
    case hh =>
      have hcomp := keepName_map (Txt.split x "/")
      rw [show (List.map PV.str (partsP x)) = ((Txt.split x "/").map PV.str).filterMap keepName from hcomp.symm] at hl ⊢
      refine' ExecK.retF (EvalR.call ?f ?k (EvalsR.cons ?st (EvalR.comp1 keepName ok ?h1 IterR.list ?kind ?hcell ?hfree ?hnames ?hx ?h3 ?h4 hl) .nil) (CallR.lenl hl))
      case f => walk_at "m.glob"
      case k => walk_at "m.keep"
      case st => with_unfolding_all rfl
      case h1 => walk_at "m.ev"
      case kind => rfl
      case hcell => decide
      case hfree => unfold freeIn; decide
      case hnames => decide
      case hx => kernel_rfl
      case h3 =>
        intro C cenv okc p hp hq
        obtain ⟨y, hy, rfl⟩ := List.mem_map.mp hp
        have hne := keepName_none hq
        refine' IfsR.no (TestR.is ?a hne)
        case a => walk_at "m.test"
      case h4 =>
        intro C cenv okc p hp q hq
        obtain ⟨y, hy, rfl⟩ := List.mem_map.mp hp
        have hne := keepName_some hq
        obtain ⟨hne, rfl⟩ := hne
        refine' ⟨IfsR.yes (TestR.is ?a hne) .nil, ?b⟩
        case a => walk_at "m.test"
        case b => walk_at "m.ev"
theorem depth_c (f : D.Fit) {x : PySem.Str} (hz : x.length ≤ 900000) (hn : 1 ≤ n) : CallR D n W (.ref 892) [.str x] [] (.int (depthP x)) W := (depth_spec (n := 0) f x hz).mono hn
end
end

section
open PySem PySem.W PyProof.Rows PySem.Calls
set_option maxHeartbeats 400000
section
variable {D : Wd} {n : Nat} {W : Wld}
noncomputable def joinP (x y : PySem.Str) : PySem.Str := if (Txt.startswith y "/" || !(x.length != 0)) = true then y else if Txt.endswith x "/" = true then x ++ y else x ++ ("/" ++ y)
theorem join_spec (f : D.Fit) (x y : PySem.Str) (hx : x.length ≤ 900000) (hy : y.length ≤ 900000) : CallR D (n + 2) W (.ref 153) [.str x, .str y] [] (.str (joinP x y)) W := by
  refine' CallR.kV f 153 "a" "p" ?e ?hb ?hc ?hok (by simp) ?hbind ?h
  case e => with_unfolding_all rfl
  case hb => rfl
  case hc => kernel_rfl
  case hok => kernel_rfl
  case hbind => (intro v; refine list_one fun u => ?_; with_unfolding_all rfl)
  case h =>
    intro L env ok
    dsimp only at ok
    refine' ExecK.run ?hh
    case hh =>
      walk_at "m.x"
      walk_at "m.x"
      walk_at "m.x"
      refine' ExecK.try (ExecK.for (p := .tup [.str y]) (W₂ := (L, .frame [("a", .str x), ("p", .tup [.str y]), ("sep", .str "/"), ("path", .str (joinP x y)), ("b", .str y)]) :: W) ?h1 IterR.tup ?h3 ?h4 ?hs)
      case h1 => walk_at "m.ev"
      case hs => intro _; rfl
      case h4 =>
        walk_at "m.x"
        walk_at "m.x"
      case h3 =>
        refine' ForR.next (AssignR.name ?s1) (ExecK.run ?b1) (ForR.done ExecR.nil)
        case s1 => walk_at "m.store"
        case b1 =>
          walk_at "m.x"
          walk_at "m.x"
          case k2 =>
            intro h
            rw [show joinP x y = y by unfold joinP; rw [if_pos h]]
            walk_at "m.x"
            walk_at "m.x"
            walk_at "m.x"
            walk_at "m.x"
          case k3 => 
            intro h
            walk_at "m.x"
            case k2 =>
              intro h2
              rw [show joinP x y = x ++ y by unfold joinP; rw [if_neg (by rw [h]; exact Bool.false_ne_true), if_pos h2]]
              walk_at "m.x"
              walk_at "m.x"
              walk_at "m.x"
              walk_at "m.x"
              walk_at "m.x"
            case k3 =>
              intro h2
              rw [show joinP x y = x ++ ("/" ++ y) by unfold joinP; rw [if_neg (by rw [h]; exact Bool.false_ne_true), if_neg (by rw [h2]; exact Bool.false_ne_true)]]
              have h5 : ("/" : PySem.Str).length = 1 := by decide
              have h4 : ("/" ++ y : PySem.Str).length = 1 + y.length := PySem.Str.length_append _ _
              walk_at "m.x"
              walk_at "m.x"
              walk_at "m.x"
              walk_at "m.x"
              walk_at "m.x"
theorem join_c (f : D.Fit) {x y : PySem.Str} (hx : x.length ≤ 900000) (hy : y.length ≤ 900000) (hn : 2 ≤ n) : CallR D n W (.ref 153) [.str x, .str y] [] (.str (joinP x y)) W := (join_spec (n := 0) f x y hx hy).mono hn
end
end

local macro_rules | `(tactic| walk_at $s) => lines s "con: join_c * 21 22 23 ; 21 fact 22 fact 23 lia"
section
open PySem PySem.W PyProof.Rows PySem.Calls
set_option maxHeartbeats 400000
theorem take_le {α : Type} {l : List α} {k m : Nat} (h : l.length ≤ m) : (l.take k).length ≤ m := Nat.le_trans (List.length_take_le' k l) h
theorem drop_le {α : Type} {l : List α} {k m : Nat} (h : l.length ≤ m) : (l.drop k).length ≤ m := by rw [List.length_drop]; exact Nat.le_trans (Nat.sub_le _ _) h
theorem cut_len {α : Type} {l : List α} {k : Nat} (h : k < l.length) : (l.take k ++ l.drop (k + 1)).length = l.length - 1 := by
  rw [List.length_append, List.length_take, List.length_drop, Nat.min_eq_left (Nat.le_of_lt h)]; lia
section
variable {D : Wd} {n : Nat} {W : Wld}
theorem joinP_len (x y : PySem.Str) : (joinP x y).length ≤ x.length + y.length + 1 := by
  unfold joinP
  have h5 : ("/" : PySem.Str).length = 1 := by decide
  have h4 : ("/" ++ y : PySem.Str).length = 1 + y.length := PySem.Str.length_append _ _
  have h6 := PySem.Str.length_append x y
  have h7 := PySem.Str.length_append x ("/" ++ y)
  split
  · lia
  · split <;> lia
noncomputable def growN (s0 s1 x : PySem.Str) : Nat → PySem.Str × List PySem.Str
  | 0 => (x, [])
  | m + 1 => (joinP (growN s0 s1 x m).1 s0, joinP (growN s0 s1 x m).1 s1 :: (growN s0 s1 x m).2)
theorem growN_len {s0 s1 x : PySem.Str} (h0 : s0.length = 1) : ∀ m, (growN s0 s1 x m).1.length ≤ x.length + 2 * m
  | 0 => by simp [growN]
  | m + 1 => by
    have h1 := growN_len (s1 := s1) (x := x) h0 m
    have h2 := joinP_len (growN s0 s1 x m).1 s0
    show (joinP (growN s0 s1 x m).1 s0).length ≤ _
    lia
theorem growN_num {s0 s1 x : PySem.Str} : ∀ m, (growN s0 s1 x m).2.length = m
  | 0 => rfl
  | m + 1 => by
    show (growN s0 s1 x m).2.length + 1 = _
    rw [growN_num m]
theorem item_len (x : PySem.Str) (i : Int) : (Txt.item x i).length = 1 := rfl
theorem given_some (f : D.Fit) (free : List PySem.Str) (d : Int) (sides : PySem.Str) (hs : sides.length = 2) (hf : ∀ y ∈ free, y.length ≤ 1000) (hn : free.length ≤ 1000) (hd : d ≤ 1000) (k : Nat) (x : PySem.Str) (m : Nat) (hk : free[k]? = some x) (hfirst : ∀ j < k, ∀ y, free[j]? = some y → ¬ ((depthP y : Int) ≤ d)) (hx : d = depthP x + m) :
    CallR D (n + 3) W (.ref 899) [.list (free.map .str), .int d, .str sides] []
      (.tup [.str (growN (Txt.item sides 0) (Txt.item sides 1) x m).1, .list ((free.take k ++ (growN (Txt.item sides 0) (Txt.item sides 1) x m).2 ++ free.drop (k + 1)).map .str)]) W := by
  have hlen : (free.map PV.str).length ≤ 1000000 := by rw [List.length_map]; lia
  have hkl : k < free.length := (List.getElem?_eq_some_iff.mp hk).1
  refine' CallR.kS f 899 ["free", "depth", "sides"] ?e ?hb ?hc ?hok rfl (bind3 ?hbind) ?h
  case e => with_unfolding_all rfl
  case hb => rfl
  case hc => kernel_rfl
  case hok => kernel_rfl
  case hbind => intro v u z; with_unfolding_all rfl
  case h =>
    intro L env ok
    dsimp only [List.zip_cons_cons, List.zip_nil_left] at ok ⊢
    refine' ExecK.run ?hh
    case hh =>
      refine' ExecK.forS (p := .range ((free.map PV.str).length : Int)) (ps := upto ((free.map PV.str).length : Int)) ?h1 (IterR.range (by lia) (by lia)) (ForR.ixRet (fun _ => (L, .frame [("free", .list (free.map .str)), ("depth", .int d), ("sides", .str sides)]) :: W) _ 0 k (.int (k : Int)) ?h3 (upto_at (by rw [List.length_map]; simpa using hkl)) ?h4) rfl ?hs
      case h1 => walk_at "m.ev"
      case hs => intro _; rfl
      case h3 =>
        intro j q hj hq
        obtain ⟨rfl, hj2⟩ := upto_get hq
        have hjl : j < free.length := by lia
        have hy : free[j]? = some free[j] := List.getElem?_eq_getElem hjl
        have hyl := hf _ (List.getElem_mem hjl)
        have hget : (free.map PV.str)[((j : Int)).toNat]? = some (.str free[j]) := by rw [List.getElem?_map]; show (free[j]?).map _ = _; rw [hy]; rfl
        have hno := hfirst j hj _ hy
        refine' ⟨_, AssignR.name ?s1, ExecK.run ?b1⟩
        case s1 => walk_at "m.store"
        case b1 =>
          refine' ExecK.assignSw (p := .str free[j]) (q := .list []) ?e1 ?e2 ?e3 ?e4 ?e5 ?e6
          case e1 => walk_at "m.ev"
          case e2 => walk_at "m.store"
          case e3 => walk_at "m.store"
          case e4 => exact swapped2 ok (by kernel_rfl) (by kernel_rfl) (by decide) rfl rfl (by rfl) (by rfl)
          case e6 => rfl
          case e5 =>
            walk_at "m.x"
            case k2 => intro h; exact absurd (of_decide_eq_true h) hno
            case k3 =>
              intro h
              walk_at "m.x"
              refine' ExecK.cutF (σ' := [("free", .list (free.map .str)), ("depth", .int d), ("sides", .str sides)]) ?n1 ?n2
              case n1 => walk_at "m.subsig"
              case n2 =>
                walk_at "m.x"
                walk_at "m.x"
      case h4 =>
        have hxl := hf _ (List.mem_of_getElem? hk)
        have hget : (free.map PV.str)[((k : Int)).toNat]? = some (.str x) := by rw [List.getElem?_map]; show (free[k]?).map _ = _; rw [hk]; rfl
        have hle : (depthP x : Int) ≤ d := by lia
        refine' ⟨_, AssignR.name ?s1, ExecK.run ?b1⟩
        case s1 => walk_at "m.store"
        case b1 =>
          refine' ExecK.assignSw (p := .str x) (q := .list []) ?e1 ?e2 ?e3 ?e4 ?e5 ?e6
          case e1 => walk_at "m.ev"
          case e2 => walk_at "m.store"
          case e3 => walk_at "m.store"
          case e4 => exact swapped2 ok (by kernel_rfl) (by kernel_rfl) (by decide) rfl rfl (by rfl) (by rfl)
          case e6 => rfl
          case e5 =>
            walk_at "m.x"
            case k3 => intro h; exact absurd hle (of_decide_eq_false h)
            case k2 =>
              intro h
              let s0 := Txt.item sides 0
              let s1 := Txt.item sides 1
              let Wf : Nat → Wld := fun i => (L, .frame [("free", .list (free.map .str)), ("depth", .int d), ("sides", .str sides), ("k", .int k), ("halves", .list ((growN (Txt.item sides 0) (Txt.item sides 1) x i).2.map .str)), ("place", .str (growN (Txt.item sides 0) (Txt.item sides 1) x i).1)]) :: W
              refine' ExecK.for (p := .range (d - (depthP x : Int))) (ps := upto (d - (depthP x : Int))) (W₁ := (L, .frame [("free", .list (free.map .str)), ("depth", .int d), ("sides", .str sides), ("k", .int k), ("halves", .list []), ("place", .str x)]) :: W)
                (W₂ := (L, .frame [("free", .list (free.map .str)), ("depth", .int d), ("sides", .str sides), ("k", .int k), ("halves", .list ((growN (Txt.item sides 0) (Txt.item sides 1) x m).2.map .str)), ("place", .str (growN (Txt.item sides 0) (Txt.item sides 1) x m).1)]) :: W) ?f1 (IterR.range (by lia) (by lia)) ?f3 ?f4 ?f5
              case f1 => walk_at "m.ev"
              case f5 => intro _; rfl
              case f3 =>
                have hm : (upto (d - (depthP x : Int))).length = m := by rw [upto_len]; lia
                change ForR _ _ _ _ _ _ (Wf 0) _ (.next (Wf m))
                refine' ForR.ix Wf _ 0 ?g1 ?g2
                case g2 => rw [hm, Nat.zero_add]; exact ExecR.nil
                case g1 =>
                  intro j q hq
                  obtain ⟨rfl, hj2⟩ := upto_get hq
                  rw [Nat.zero_add]
                  have hl0 : (Txt.item sides 0).length = 1 := rfl
                  have hl1 : (Txt.item sides 1).length = 1 := rfl
                  have hgl := growN_len (s1 := Txt.item sides 1) (x := x) hl0 j
                  have hgn := growN_num (s0 := Txt.item sides 0) (s1 := Txt.item sides 1) (x := x) j
                  have hgl1 : (growN (Txt.item sides 0) (Txt.item sides 1) x j).1.length ≤ 900000 := by lia
                  have hgn1 : ([PV.str (joinP (growN (Txt.item sides 0) (Txt.item sides 1) x j).1 (Txt.item sides 1))]).length + ((growN (Txt.item sides 0) (Txt.item sides 1) x j).2.map PV.str).length ≤ 1000000 := by rw [List.length_map, hgn]; simp; lia
                  refine' ⟨_, AssignR.name ?s1, ExecK.run ?b1⟩
                  case s1 => walk_at "m.store"
                  case b1 =>
                    walk_at "m.x"
                    walk_at "m.x"
                    refine' ExecK.cutF (σ' := [("free", .list (free.map .str)), ("depth", .int d), ("sides", .str sides), ("k", .int k), ("halves", .list ((growN (Txt.item sides 0) (Txt.item sides 1) x (j + 1)).2.map .str)), ("place", .str (growN (Txt.item sides 0) (Txt.item sides 1) x (j + 1)).1)]) ?n1 ?n2
                    case n1 => exact .cons (.cons (.cons (.cons (.cons (.cons .nil)))))
                    case n2 =>
                      walk_at "m.x"
                      exact ExecK.done
              case f4 =>
                have hgn := growN_num (s0 := Txt.item sides 0) (s1 := Txt.item sides 1) (x := x) m
                have hkz : (0 : Int) ≤ (k : Int) := by lia
                have hk1 : (0 : Int) ≤ (k : Int) + 1 := by lia
                have hfz : (free.map PV.str).length ≤ 1000 := by rw [List.length_map]; exact hn
                have hgz : ((growN (Txt.item sides 0) (Txt.item sides 1) x m).2.map PV.str).length ≤ 1000 := by rw [List.length_map, hgn]; lia
                have z1 : (List.take ((k : Int)).toNat (free.map PV.str)).length + ((growN (Txt.item sides 0) (Txt.item sides 1) x m).2.map PV.str).length ≤ 1000000 := Nat.le_trans (Nat.add_le_add (take_le hfz) hgz) (by decide)
                have z2 : (List.take ((k : Int)).toNat (free.map PV.str) ++ (growN (Txt.item sides 0) (Txt.item sides 1) x m).2.map PV.str).length + (List.drop ((k : Int) + 1).toNat (free.map PV.str)).length ≤ 1000000 := by
                  rw [List.length_append]; exact Nat.le_trans (Nat.add_le_add (Nat.add_le_add (take_le hfz) hgz) (drop_le hfz)) (by decide)
                refine' ExecK.retS (EvalR.is ?r1 ?r2) ?r3
                case r1 => walk_at "m.ev"
                case r3 => walk_at "m.sub"
                case r2 =>
                  have e1 : ((k : Int) + 1).toNat = k + 1 := by lia
                  have e2 : ((k : Int)).toNat = k := by lia
                  rw [e1, e2, List.map_append, List.map_append, List.map_take, List.map_drop]
theorem given_none (f : D.Fit) (free : List PySem.Str) (d : Int) (sides : PySem.Str) (hf : ∀ y ∈ free, y.length ≤ 1000) (hn : free.length ≤ 1000) (hno : ∀ y ∈ free, ¬ ((depthP y : Int) ≤ d)) :
    CallR D (n + 3) W (.ref 899) [.list (free.map .str), .int d, .str sides] [] (.tup [.none, .list (free.map .str)]) W := by
  have hlen : (free.map PV.str).length ≤ 1000000 := by rw [List.length_map]; lia
  refine' CallR.kS f 899 ["free", "depth", "sides"] ?e ?hb ?hc ?hok rfl (bind3 ?hbind) ?h
  case e => with_unfolding_all rfl
  case hb => rfl
  case hc => kernel_rfl
  case hok => kernel_rfl
  case hbind => intro v u z; with_unfolding_all rfl
  case h =>
    intro L env ok
    dsimp only [List.zip_cons_cons, List.zip_nil_left] at ok ⊢
    refine' ExecK.run ?hh
    case hh =>
      refine' ExecK.for (p := .range ((free.map PV.str).length : Int)) (ps := upto ((free.map PV.str).length : Int)) (W₂ := (L, .frame [("free", .list (free.map .str)), ("depth", .int d), ("sides", .str sides)]) :: W) ?h1 (IterR.range (by lia) (by lia)) (ForR.ix (fun _ => (L, .frame [("free", .list (free.map .str)), ("depth", .int d), ("sides", .str sides)]) :: W) _ 0 ?h3 ExecR.nil) ?h4 ?hs
      case h1 => walk_at "m.ev"
      case hs => intro _; rfl
      case h3 =>
        intro j q hq
        obtain ⟨rfl, hj2⟩ := upto_get hq
        have hjl : j < free.length := by rw [List.length_map] at hj2; lia
        have hy : free[j]? = some free[j] := List.getElem?_eq_getElem hjl
        have hyl := hf _ (List.getElem_mem hjl)
        have hget : (free.map PV.str)[((j : Int)).toNat]? = some (.str free[j]) := by rw [List.getElem?_map]; show (free[j]?).map _ = _; rw [hy]; rfl
        have hno := hno _ (List.getElem_mem hjl)
        refine' ⟨_, AssignR.name ?s1, ExecK.run ?b1⟩
        case s1 => walk_at "m.store"
        case b1 =>
          refine' ExecK.assignSw (p := .str free[j]) (q := .list []) ?e1 ?e2 ?e3 ?e4 ?e5 ?e6
          case e1 => walk_at "m.ev"
          case e2 => walk_at "m.store"
          case e3 => walk_at "m.store"
          case e4 => exact swapped2 ok (by kernel_rfl) (by kernel_rfl) (by decide) rfl rfl (by rfl) (by rfl)
          case e6 => rfl
          case e5 =>
            walk_at "m.x"
            case k2 => intro h; exact absurd (of_decide_eq_true h) hno
            case k3 =>
              intro h
              walk_at "m.x"
              refine' ExecK.cutF (σ' := [("free", .list (free.map .str)), ("depth", .int d), ("sides", .str sides)]) ?n1 ?n2
              case n1 => walk_at "m.subsig"
              case n2 =>
                walk_at "m.x"
                walk_at "m.x"
      case h4 => walk_at "m.x"
end
end

section
open PySem PySem.W PyProof.Rows PySem.Calls
set_option maxHeartbeats 400000
section
variable {D : Wd} {n : Nat} {W : Wld}
noncomputable def onlyP (t : PySem.Str → Bool) (p : PV) : Option PV := match p with | .str y => if t y = true then some p else Option.none | _ => Option.none
theorem onlyP_map (t : PySem.Str → Bool) (l : List PySem.Str) : (l.map PV.str).filterMap (onlyP t) = (l.filter t).map .str := by
  induction l with
  | nil => rfl
  | cons y l ih =>
    rw [List.map_cons, List.filterMap_cons, List.filter_cons]
    unfold onlyP at ih ⊢
    by_cases h : t y = true
    · simp only [h, if_true]; rw [List.map_cons, ← ih]
    · simp only [h]; exact ih
theorem onlyP_none {t : PySem.Str → Bool} {y : PySem.Str} (h : onlyP t (.str y) = Option.none) : t y = false := by
  have h' : (if t y = true then some (PV.str y) else Option.none) = Option.none := h
  cases hb : t y
  · rfl
  · rw [hb] at h'; cases h'
theorem onlyP_some {t : PySem.Str → Bool} {y : PySem.Str} {q : PV} (h : onlyP t (.str y) = some q) : t y = true ∧ q = .str y := by
  have h' : (if t y = true then some (PV.str y) else Option.none) = some q := h
  cases hb : t y
  · rw [hb] at h'; cases h'
  · rw [hb] at h'; cases h'; exact ⟨rfl, rfl⟩
noncomputable def otherP (s0 s1 p : PySem.Str) : PySem.Str := joinP (dirnameP p) (if (basenameP p == s0) = true then s1 else s0)
inductive BackR (s0 s1 : PySem.Str) : List PySem.Str → PySem.Str → List PySem.Str → Prop
  | root {free : List PySem.Str} : free.length ≤ 1000 → BackR s0 s1 free "/" (free ++ [("/" : PySem.Str)])
  | alone {free : List PySem.Str} {p : PySem.Str} : free.length ≤ 1000 → p.length ≤ 1000 → (p != "/") = true → free.any (· == otherP s0 s1 p) = false → BackR s0 s1 free p (free ++ [p])
  | merge {free r : List PySem.Str} {p : PySem.Str} : free.length ≤ 1000 → p.length ≤ 1000 → (p != "/") = true → free.any (· == otherP s0 s1 p) = true → BackR s0 s1 (free.filter (· != otherP s0 s1 p)) (dirnameP p) r → BackR s0 s1 free p r
theorem dirnameP_len (x : PySem.Str) : (dirnameP x).length ≤ x.length := by
  have h1 : (headP x).length ≤ x.length := Txt.slice_le _ _ _
  unfold dirnameP
  split
  · exact Nat.le_trans (len_stripBy _ _ _ _) h1
  · exact h1
theorem EvalR.iteS {env : Env} {W₁ : Wld} {test body orelse : Expr} {pos : Pos} {b : Bool} {x y : PySem.Str} (h1 : TestR D n env W test b W₁) (h2 : EvalR D n env W₁ body (.str x) W₁) (h3 : EvalR D n env W₁ orelse (.str y) W₁) : EvalR D n env W (.IfExp test body orelse pos) (.str (if b = true then x else y)) W₁ := by
  cases b with
  | true => exact EvalR.ite h1 (fun _ => h2) (fun e => nomatch e)
  | false => exact EvalR.ite h1 (fun e => nomatch e) (fun _ => h3)
local macro_rules | `(tactic| walk_at $s) => lines s "own: EvalR.iteS 1 2 3 ; 1 test 2 ev 3 ev"
theorem back_spec (f : D.Fit) (free : List PySem.Str) (p sides : PySem.Str) (r : List PySem.Str) (hs : sides.length = 2) (h : BackR (Txt.item sides 0) (Txt.item sides 1) free p r) :
    CallR D (n + 3) W (.ref 904) [.list (free.map .str), .str p, .str sides] [] (.list (r.map .str)) W := by
  refine' CallR.kC f 904 ["free", "place", "sides"] (fun L => [("other", L + 1)]) ?e ?hb ?hc ?hok rfl (bind3 ?hbind) ?hcl ?hlk ?h
  case e => with_unfolding_all rfl
  case hb => rfl
  case hc => kernel_rfl
  case hok => kernel_rfl
  case hbind => intro v u z; with_unfolding_all rfl
  case hcl => intro L; rfl
  case hlk =>
    intro L p hp
    simp only [List.mem_cons, List.not_mem_nil, or_false] at hp
    first | (obtain rfl := hp; exact look_here) | (rcases hp with rfl | rfl; exact look_here; exact look_there (by kernel_rfl) look_here)
  case h =>
    intro L env ok
    simp only [List.zip_cons_cons, List.zip_nil_left, List.map_cons, List.map_nil, List.cons_append, List.nil_append] at ok ⊢
    refine' ExecK.run ?hh
    case hh =>
      refine' ExecK.whileE ?w
      case w =>
        generalize (Option.none : Option PV) = c
        induction h generalizing c with
        | root hf =>
          rename_i free'
          have hl : (List.map PV.str free').length + [PV.str "/"].length ≤ 1000000 := by rw [List.length_map]; simp; lia
          refine' WhileE.out (TestR.is (b := ("/" : PySem.Str) != "/") ?t (by decide)) ?k
          case t => walk_at "m.test"
          case k =>
            refine' ExecK.retS (EvalR.is ?r1 ?r2) ?r3
            case r1 => walk_at "m.ev"
            case r3 => walk_at "m.sub"
            case r2 => rw [List.map_append]; rfl
        | alone hf hp hne hno =>
          rename_i free' p'
          have hl : (List.map PV.str free').length + [PV.str p'].length ≤ 1000000 := by rw [List.length_map]; simp; lia
          have hdl := dirnameP_len p'
          have hil : (if (basenameP p' == Txt.item sides 0) = true then Txt.item sides 1 else Txt.item sides 0).length ≤ 900000 := by split <;> (rw [item_len]; lia)
          refine' WhileE.ret (TestR.is ?t hne) (ExecK.run ?k)
          case t => walk_at "m.test"
          case k =>
            walk_at "m.x"
            rw [show joinP (dirnameP p') (if (basenameP p' == Txt.item sides 0) = true then Txt.item sides 1 else Txt.item sides 0) = otherP (Txt.item sides 0) (Txt.item sides 1) p' from rfl]
            walk_at "m.x"
            case k3 => intro h; rw [hno] at h; cases h
            case k2 =>
              intro h
              refine' ExecK.retS (EvalR.is ?r1 ?r2) ?r3
              case r1 => walk_at "m.ev"
              case r3 => walk_at "m.sub"
              case r2 => rw [List.map_append]; rfl
        | merge hf hp hne hin hr ih =>
          rename_i free' r' p'
          have hdl := dirnameP_len p'
          have hil : (if (basenameP p' == Txt.item sides 0) = true then Txt.item sides 1 else Txt.item sides 0).length ≤ 900000 := by split <;> (rw [item_len]; lia)
          refine' WhileE.next (TestR.is ?t hne) (ExecK.run ?k) (ih (some (.str (otherP (Txt.item sides 0) (Txt.item sides 1) p'))))
          case t => walk_at "m.test"
          case k =>
            walk_at "m.x"
            rw [show joinP (dirnameP p') (if (basenameP p' == Txt.item sides 0) = true then Txt.item sides 1 else Txt.item sides 0) = otherP (Txt.item sides 0) (Txt.item sides 1) p' from rfl]
            walk_at "m.x"
            case k2 => intro h; rw [hin] at h; cases h
            case k3 =>
              intro h
              walk_at "m.x"
              have hz : ((free'.map PV.str).filterMap (onlyP (· != otherP (Txt.item sides 0) (Txt.item sides 1) p'))).length ≤ 1000000 := by
                rw [onlyP_map, List.length_map]
                have := List.length_filter_le (· != otherP (Txt.item sides 0) (Txt.item sides 1) p') free'
                lia
              refine' ExecK.st (ExecS.assignComp1 (onlyP (· != otherP (Txt.item sides 0) (Txt.item sides 1) p')) ok ?c1 IterR.list rfl ?c2 ?c3 ?c4 ?c5 ?c6 ?c7 hz ?c8 ?c9 ?c10 ?c11 ?c12 ?c13) ?k2
              case c1 => walk_at "m.ev"
              case c2 => decide
              case c3 =>
                intro q hq hk
                simp only [List.mem_cons, List.not_mem_nil, or_false] at hq
                rcases hq with rfl | rfl | rfl <;> first | (cases hk; done) | rfl
              case c4 => decide
              case c5 => kernel_rfl
              case c6 =>
                intro C cenv okc q hq ho
                obtain ⟨y, hy, rfl⟩ := List.mem_map.mp hq
                have okc : EnvOk cenv C [(".0", .local), ("one", .local), ("other", .cell)] [("other", L + 1)] := okc
                refine' IfsR.no (TestR.is ?a (onlyP_none ho))
                case a => walk_at "m.test"
              case c7 =>
                intro C cenv okc q hq z ho
                obtain ⟨y, hy, rfl⟩ := List.mem_map.mp hq
                have okc : EnvOk cenv C [(".0", .local), ("one", .local), ("other", .cell)] [("other", L + 1)] := okc
                obtain ⟨hb, rfl⟩ := onlyP_some ho
                refine' ⟨IfsR.yes (TestR.is ?a hb) .nil, ?b⟩
                case a => walk_at "m.test"
                case b => walk_at "m.ev"
              case c8 => rw [onlyP_map]; walk_at "m.store"
              case c9 => kernel_rfl
              case c10 => intro h; exact h
              case c11 => rfl
              case c12 => kernel_rfl
              case c13 => intro _; rfl
              case k2 =>
                walk_at "m.x"
                walk_at "m.x"
                exact ExecK.done
theorem back_c (f : D.Fit) {free : List PySem.Str} {p sides : PySem.Str} {r : List PySem.Str} (hs : sides.length = 2) (h : BackR (Txt.item sides 0) (Txt.item sides 1) free p r) (hn : 3 ≤ n) :
    CallR D n W (.ref 904) [.list (free.map .str), .str p, .str sides] [] (.list (r.map .str)) W := (back_spec (n := 0) f free p sides r hs h).mono hn
end
end

section
open PySem PySem.W PyProof.Rows PySem.Calls
set_option maxHeartbeats 400000
section
variable {D : Wd} {n : Nat} {W : Wld}
theorem Core.perm {F G : Led} {W W' : Wld} {s : Shared} (c : Core D F G W s) (h : W'.Perm W) : Core D F G W' s :=
  ⟨c.base, c.inn, c.frn, c.apart, fun p hp => c.wG p (h.subset hp), fun p hp => c.wF p (h.subset hp), (h.map _).nodup_iff.mpr c.nd, fun p hp => c.wok p (h.subset hp), c.gens, c.os⟩
theorem ExecR.permF {env : Env} {W W' : Wld} {b : List Stmt} {o : Out} (h : W.Perm W') (x : ExecR D n env W' b o) : ExecR D n env W b o := fun A F G s Q E rm c k => x A F G s Q E rm (c.perm h.symm) k
theorem ExecK.perm {env : Env} {W W' : Wld} {b : List Stmt} {bs : List (List Stmt)} {o : Out} (h : W.Perm W') (x : ExecK D n env W' (b :: bs) o) : ExecK D n env W (b :: bs) o := by
  rcases x with ⟨W'', h3, h4⟩ | ⟨h3, h4⟩
  · exact .inl ⟨W'', ExecR.permF h h3, h4⟩
  · exact .inr ⟨ExecR.permF h h3, h4⟩
theorem ExecK.still {env : Env} {L a : Addr} {W₁ W₂ : Wld} {ps : List PV} {σ σ' : Sg} {b : List Stmt} {bs : List (List Stmt)} {o : Out} (hs : Still a ps σ σ') (h : ExecK D n env ((L, .frame σ') :: (W₁ ++ W₂)) (b :: bs) o) : ExecK D n env ((L, .frame σ) :: (W₁ ++ (a, .lst ps) :: W₂)) (b :: bs) o := by
  rcases h with ⟨W'', h3, h4⟩ | ⟨h3, h4⟩
  · exact .inl ⟨W'', ExecR.still hs h3, h4⟩
  · exact .inr ⟨ExecR.still hs h3, h4⟩
noncomputable def kAt (x : Int) (w : List PySem.Str) : Nat := ((x.fdiv 11).fmod w.length).toNat
noncomputable def ordS (xs : List Int) (g : List PySem.Str) : Nat → List PySem.Str × List PySem.Str
  | 0 => ([], g)
  | i + 1 => ((ordS xs g i).1 ++ [(ordS xs g i).2.getD (kAt (xs.getD i 0) (ordS xs g i).2) ""], (ordS xs g i).2.take (kAt (xs.getD i 0) (ordS xs g i).2) ++ (ordS xs g i).2.drop (kAt (xs.getD i 0) (ordS xs g i).2 + 1))
theorem kAt_lt (x : Int) {w : List PySem.Str} (h : 0 < w.length) : kAt x w < w.length := by
  unfold kAt
  have h1 := Int.fmod_lt_of_pos (x.fdiv 11) (b := (w.length : Int)) (by lia)
  have h2 := Int.fmod_nonneg_of_pos (x.fdiv 11) (b := (w.length : Int)) (by lia)
  lia
theorem ordS_len (xs : List Int) (g : List PySem.Str) : ∀ i, i ≤ g.length → (ordS xs g i).1.length = i ∧ (ordS xs g i).2.length = g.length - i
  | 0, _ => ⟨rfl, rfl⟩
  | i + 1, h => by
    obtain ⟨h1, h2⟩ := ordS_len xs g i (by lia)
    have hk := kAt_lt (xs.getD i 0) (w := (ordS xs g i).2) (by lia)
    constructor
    · show ((ordS xs g i).1 ++ [_]).length = _
      rw [List.length_append, h1]; rfl
    · exact (cut_len hk).trans (by rw [h2]; exact Nat.sub_sub _ _ 1)
theorem order_spec (f : D.Fit) (given : List PySem.Str) (drawn : List Int) (hg : given.length ≤ 1000) (hd : given.length ≤ drawn.length) (hd2 : drawn.length ≤ 1000) :
    CallR D (n + 1) W (.ref 911) [.list (given.map .str), .list (drawn.map .int)] [] (.list ((ordS drawn given given.length).1.map .str)) W := by
  refine' CallR.kS f 911 ["given", "drawn"] ?e ?hb ?hc ?hok rfl (bind2 ?hbind) ?h
  case e => with_unfolding_all rfl
  case hb => rfl
  case hc => kernel_rfl
  case hok => kernel_rfl
  case hbind => intro v u; with_unfolding_all rfl
  case h =>
    intro L env ok
    dsimp only [List.zip_cons_cons, List.zip_nil_left] at ok ⊢
    refine' ExecR.ownSw (W₃ := fun a => (a, .lst []) :: (L, .frame [("given", .list (given.map .str)), ("drawn", .list (drawn.map .int)), ("waiting", .list (given.map .str))]) :: W) (W₄ := fun a => (a, .lst []) :: (L, .frame [("given", .list (given.map .str)), ("drawn", .list (drawn.map .int)), ("waiting", .list (given.map .str)), ("order", .con (.ref a))]) :: W) ?h1 (by decide) (fun a => ?h2) (fun a => ?h3) (fun a => ?h4) (fun a => ⟨.ret (.list ((ordS drawn given given.length).1.map .str)) W, ExecK.run ?h5, .ret (List.Sublist.refl _)⟩) ?he1 ?he2 ?hw ?hs
    case h1 => walk_at "m.evs"
    case h2 => walk_at "m.ev"
    case h3 => walk_at "m.store"
    case h4 => walk_at "m.store"
    case he1 => with_unfolding_all rfl
    case he2 => with_unfolding_all rfl
    case hs => rfl
    case hw => exact swapped2 ok (by kernel_rfl) (by kernel_rfl) (by decide) rfl rfl (by rfl) (by rfl)
    case h5 =>
      refine' ExecK.perm (List.Perm.swap _ _ _) ?_
      let Wf : Nat → Wld := fun i => (L, .frame [("given", .list (given.map .str)), ("drawn", .list (drawn.map .int)), ("waiting", .list ((ordS drawn given i).2.map .str)), ("order", .con (.ref a))]) :: (a, .lst ((ordS drawn given i).1.map .str)) :: W
      have hgl : (given.map PV.str).length ≤ 1000000 := by rw [List.length_map]; lia
      have hdl : (drawn.map PV.int).length ≤ 1000000 := by rw [List.length_map]; lia
      have hm : (List.take (((given.map PV.str).length : Int)).toNat (drawn.map PV.int)).length = given.length := by rw [List.length_take, List.length_map, List.length_map]; lia
      refine' ExecK.for (p := .list (List.take (((given.map PV.str).length : Int)).toNat (drawn.map PV.int))) (ps := List.take (((given.map PV.str).length : Int)).toNat (drawn.map PV.int))
        (W₁ := (L, .frame [("given", .list (given.map .str)), ("drawn", .list (drawn.map .int)), ("waiting", .list (given.map .str)), ("order", .con (.ref a))]) :: (a, .lst []) :: W)
        (W₂ := (L, .frame [("given", .list (given.map .str)), ("drawn", .list (drawn.map .int)), ("waiting", .list ((ordS drawn given given.length).2.map .str)), ("order", .con (.ref a))]) :: (a, .lst ((ordS drawn given given.length).1.map .str)) :: W) ?f1 IterR.list ?f3 ?f4 ?f5
      case f1 => walk_at "m.ev"
      case f5 => intro _; rfl
      case f4 =>
        refine' ExecK.still (W₁ := []) (.keep (.keep (.keep (.turn .nil)))) ?g4
        case g4 =>
          dsimp only [List.nil_append]
          walk_at "m.x"
      case f3 =>
        change ForR _ _ _ _ _ _ (Wf 0) _ (.next (Wf given.length))
        refine' ForR.ix Wf _ 0 ?g1 ?g2
        case g2 => rw [hm, Nat.zero_add]; exact ExecR.nil
        case g1 =>
          intro j q hq
          have hj : j < given.length := by have := (List.getElem?_eq_some_iff.mp hq).1; lia
          have hjd : j < drawn.length := by lia
          obtain rfl : q = .int (drawn.getD j 0) := by
            rw [List.getElem?_take_of_lt (by rw [List.length_map]; lia), List.getElem?_map, List.getElem?_eq_getElem hjd] at hq
            rw [List.getD_eq_getElem?_getD, List.getElem?_eq_getElem hjd]
            exact (Option.some.inj hq).symm
          rw [Nat.zero_add]
          obtain ⟨l1, l2⟩ := ordS_len drawn given j (by lia)
          have hkl := kAt_lt (drawn.getD j 0) (w := (ordS drawn given j).2) (by lia)
          have hk0 : (0 : Int) ≤ ((drawn.getD j 0).fdiv 11).fmod (((ordS drawn given j).2.map PV.str).length : Int) := Int.fmod_nonneg_of_pos _ (by rw [List.length_map]; lia)
          have hk1 : (((drawn.getD j 0).fdiv 11).fmod (((ordS drawn given j).2.map PV.str).length : Int)) < (((ordS drawn given j).2.map PV.str).length : Int) := Int.fmod_lt_of_pos _ (by rw [List.length_map]; lia)
          have hkk : (((drawn.getD j 0).fdiv 11).fmod (((ordS drawn given j).2.map PV.str).length : Int)).toNat = kAt (drawn.getD j 0) (ordS drawn given j).2 := by unfold kAt; rw [List.length_map]
          have hwl : ((ordS drawn given j).2.map PV.str).length = given.length - j := by rw [List.length_map, l2]
          have hw0 : (((ordS drawn given j).2.map PV.str).length : Int) ≠ 0 := by lia
          have hget : ((ordS drawn given j).2.map PV.str)[(((drawn.getD j 0).fdiv 11).fmod (((ordS drawn given j).2.map PV.str).length : Int)).toNat]? = some (.str ((ordS drawn given j).2.getD (kAt (drawn.getD j 0) (ordS drawn given j).2) "")) := by
            rw [hkk, List.getElem?_map, List.getElem?_eq_getElem hkl]
            have e := List.getElem_eq_getD (h := hkl) (PySem.Str.ofString "")
            exact congrArg (fun z => some (PV.str z)) e
          refine' ⟨_, AssignR.name ?s1, ExecK.run ?b1⟩
          case s1 => walk_at "m.store"
          case b1 =>
            walk_at "m.x"
            have hz : ((ordS drawn given j).1.map PV.str).length ≤ 1000 := by rw [List.length_map, l1]; lia
            refine' ExecK.expr ok (EvalR.append ?a1 ?a2 ?a3 ?a4 ?a5 ?a6 hz ?a7) ?a8 ?a9
            case a1 => intro _; rfl
            case a2 => walk_at "m.ev"
            case a3 => walk_at "m.ev"
            case a4 => walk_at "m.get"
            case a5 => walk_at "m.wput"
            case a6 => with_unfolding_all rfl
            case a7 => rfl
            case a9 => rfl
            case a8 =>
              have hk2 : (0 : Int) ≤ (((drawn.getD j 0).fdiv 11).fmod (((ordS drawn given j).2.map PV.str).length : Int)) + 1 := by lia
              have hwz' : ((ordS drawn given j).2.map PV.str).length ≤ 1000 := by rw [hwl]; exact Nat.le_trans (Nat.sub_le _ _) hg
              have hwz : ((ordS drawn given j).2.map PV.str).length ≤ 1000000 := Nat.le_trans hwz' (by decide)
              have z2 : (List.take ((((drawn.getD j 0).fdiv 11).fmod (((ordS drawn given j).2.map PV.str).length : Int))).toNat ((ordS drawn given j).2.map PV.str)).length + (List.drop ((((drawn.getD j 0).fdiv 11).fmod (((ordS drawn given j).2.map PV.str).length : Int)) + 1).toNat ((ordS drawn given j).2.map PV.str)).length ≤ 1000000 := Nat.le_trans (Nat.add_le_add (take_le hwz') (drop_le hwz')) (by decide)
              walk_at "m.x"
              have e1 : ((((drawn.getD j 0).fdiv 11).fmod (((ordS drawn given j).2.map PV.str).length : Int)) + 1).toNat = kAt (drawn.getD j 0) (ordS drawn given j).2 + 1 := by rw [Int.toNat_add hk0 (by decide), hkk]; rfl
              rw [hkk, e1, ← List.map_take, ← List.map_drop, ← List.map_append]
              rw [show (ordS drawn given j).1.map PV.str ++ [PV.str ((ordS drawn given j).2.getD (kAt (drawn.getD j 0) (ordS drawn given j).2) "")] = (ordS drawn given (j + 1)).1.map PV.str by show _ = List.map PV.str ((ordS drawn given j).1 ++ [_]); rw [List.map_append]; rfl]
              refine' ExecK.cutF (σ' := [("given", .list (given.map .str)), ("drawn", .list (drawn.map .int)), ("waiting", .list ((ordS drawn given (j + 1)).2.map .str)), ("order", .con (.ref a))]) ?n1 ?n2
              case n1 => exact .cons (.cons (.cons (.cons .nil)))
              case n2 =>
                walk_at "m.x"
                exact ExecK.done
theorem order_c (f : D.Fit) {given : List PySem.Str} {drawn : List Int} (hg : given.length ≤ 1000) (hd : given.length ≤ drawn.length) (hd2 : drawn.length ≤ 1000) (hn : 1 ≤ n) :
    CallR D n W (.ref 911) [.list (given.map .str), .list (drawn.map .int)] [] (.list ((ordS drawn given given.length).1.map .str)) W := (order_spec (n := 0) f given drawn hg hd hd2).mono hn
end
end

local macro_rules | `(tactic| walk_at $s) => lines s "con: back_c * 1 2 3 ; 1 fact 2 as 3 lia | order_c * 1 2 3 4 ; 1 fact 2 fact 3 fact 4 fact | CallR.next 1 2 ; 1 wput 2 as"
section
open PySem PySem.W PyProof.Rows PySem.Calls
set_option maxHeartbeats 400000
section
variable {D : Wd} {n : Nat} {W W' W'' : Wld}
theorem and63 : ∀ v : Fin 64, Builtin.bitAnd (v.val : Int) 63 = v.val ∧ Builtin.bitAnd (v.val : Int) 64 = 0 ∧ Builtin.bitAnd ((v.val : Int) + 64) 63 = v.val ∧ Builtin.bitAnd ((v.val : Int) + 64) 64 = 64 := by decide +kernel
theorem or64 : ∀ v u : Fin 64, Builtin.bitOr ((v.val : Int) * 64) (u.val : Int) = (v.val : Int) * 64 + u.val := by decide +kernel
theorem varint1 (f : D.Fit) {it : Addr} {b : Array UInt8} {i : Nat} {v : UInt8} (hp : WPut W it (.biter b i) (.biter b (i + 1)) W') (hv : b[i]? = some v) (hl : v.toNat < 64) : CallR D (n + 1) W (.ref 59) [.con (.ref it)] [] (.int (v.toNat : Int)) W' := by
  obtain ⟨a1, a2, a3, a4⟩ := and63 ⟨v.toNat, hl⟩
  dsimp only at a1 a2
  refine' CallR.kS f 59 ["iterator"] ?e ?hb ?hc ?hok rfl (bind1 ?hbind) ?h
  case e => with_unfolding_all rfl
  case hb => rfl
  case hc => kernel_rfl
  case hok => kernel_rfl
  case hbind => intro v; with_unfolding_all rfl
  case h =>
    intro L env ok
    dsimp only [List.zip_cons_cons, List.zip_nil_left] at ok ⊢
    refine' ExecK.run ?hh
    case hh =>
      walk_at "m.x"
      walk_at "m.x"
      refine' ExecK.whileE (WhileE.out (TestR.is ?t ?tb) ?k)
      case t => walk_at "m.test"
      case tb => rw [a2]; rfl
      case k =>
        refine' ExecK.retS (EvalR.is ?r1 ?r2) ?r3
        case r1 => walk_at "m.ev"
        case r3 => walk_at "m.sub"
        case r2 => rw [a1]
theorem varint2 (f : D.Fit) {it : Addr} {b : Array UInt8} {i : Nat} {v u : UInt8} (hp : WPut W it (.biter b i) (.biter b (i + 1)) W') (hp2 : WPut W' it (.biter b (i + 1)) (.biter b (i + 1 + 1)) W'') (hv : b[i]? = some v) (hu : b[i + 1]? = some u) (h : Nat) (hh : v.toNat = h + 64) (hl : h < 64) (hul : u.toNat < 64) :
    CallR D (n + 1) W (.ref 59) [.con (.ref it)] [] (.int ((h * 64 + u.toNat : Nat) : Int)) W'' := by
  obtain ⟨a1, a2, a3, a4⟩ := and63 ⟨h, hl⟩
  obtain ⟨b1, b2, b3, b4⟩ := and63 ⟨u.toNat, hul⟩
  have o1 := or64 ⟨h, hl⟩ ⟨u.toNat, hul⟩
  dsimp only at a1 a2 a3 a4 b1 b2 b3 b4 o1
  have hh' : (v.toNat : Int) = (h : Int) + 64 := by lia
  refine' CallR.kS f 59 ["iterator"] ?e ?hb ?hc ?hok rfl (bind1 ?hbind) ?h
  case e => with_unfolding_all rfl
  case hb => rfl
  case hc => kernel_rfl
  case hok => kernel_rfl
  case hbind => intro v; with_unfolding_all rfl
  case h =>
    intro L env ok
    dsimp only [List.zip_cons_cons, List.zip_nil_left] at ok ⊢
    refine' ExecK.run ?hh
    case hh =>
      walk_at "m.x"
      walk_at "m.x"
      rw [hh', a3]
      refine' ExecK.whileE (WhileE.next (W₂ := (L, .frame [("iterator", .con (.ref it)), ("b", .int (u.toNat : Int)), ("val", .int ((h * 64 + u.toNat : Nat) : Int))]) :: W'') (TestR.is ?t ?tb) (ExecK.run ?b) (WhileE.out (TestR.is ?t2 ?tb2) ?k))
      case t => walk_at "m.test"
      case tb => rw [a4]; rfl
      case b =>
        have hz1 : (0 : Int) ≤ 6 := by lia
        have hz2 : (6 : Int) ≤ 1000000 := by lia
        have hz3 : ((h : Int)).natAbs < 2 ^ 64 := by lia
        walk_at "m.x"
        walk_at "m.x"
        walk_at "m.x"
        rw [b1, show ((h : Int)) * 2 ^ (6 : Int).toNat = (h : Int) * 64 from rfl, o1]
        rw [show ((h : Int)) * 64 + (u.toNat : Int) = ((h * 64 + u.toNat : Nat) : Int) by lia]
        walk_at "m.x"
        exact ExecK.done
      case t2 => walk_at "m.test"
      case tb2 => rw [b2]; rfl
      case k => walk_at "m.x"
end
end

local macro_rules | `(tactic| walk_at $s) => lines s "con: CallR.hex 1 ; 1 fact"
section
open PySem PySem.W PyProof.Rows PySem.Calls PyProof.V
set_option maxHeartbeats 400000
section
variable {D : Wd} {n : Nat} {W W' W'' : Wld}
noncomputable def flagTab : List (Int × PySem.Str) := [(1, "OPTIMIZED"), (2, "NEWLOCALS"), (4, "VARARGS"), (8, "VARKEYWORDS"), (16, "NESTED"), (32, "GENERATOR"), (64, "NOFREE"), (128, "COROUTINE"), (256, "ITERABLE_COROUTINE"), (512, "ASYNC_GENERATOR")]
theorem flagDict (f : D.Fit) : DictI D 45 flagTab := by
  have e : (KK D).lookup 45 = some { cls := .type "dict", data := .dict #[{ hash := 1, key := .int 1 333, val := .str "OPTIMIZED" 334 }, { hash := 2, key := .int 2 335, val := .str "NEWLOCALS" 336 }, { hash := 4, key := .int 4 337, val := .str "VARARGS" 338 }, { hash := 8, key := .int 8 339, val := .str "VARKEYWORDS" 340 }, { hash := 16, key := .int 16 341, val := .str "NESTED" 342 }, { hash := 32, key := .int 32 343, val := .str "GENERATOR" 344 }, { hash := 64, key := .int 64 345, val := .str "NOFREE" 346 }, { hash := 128, key := .int 128 347, val := .str "COROUTINE" 348 }, { hash := 256, key := .int 256 349, val := .str "ITERABLE_COROUTINE" 350 }, { hash := 512, key := .int 512 351, val := .str "ASYNC_GENERATOR" 352 }] 10 } := by with_unfolding_all rfl
  have h := f.kin _ _ e
  refine TabAt.ofObj (knd := intKind D.prog D.w) (kvs := [(1, .str "OPTIMIZED" 334), (2, .str "NEWLOCALS" 336), (4, .str "VARARGS" 338), (8, .str "VARKEYWORDS" 340), (16, .str "NESTED" 342), (32, .str "GENERATOR" 344), (64, .str "NOFREE" 346), (128, .str "COROUTINE" 348), (256, .str "ITERABLE_COROUTINE" 350), (512, .str "ASYNC_GENERATOR" 352)]) (by decide) h ?_ ?_
  · refine ⟨_, _, ⟨rfl, rfl, rfl⟩, rfl, ?_, ?_, by decide⟩
    · intro e he
      simp only [List.mem_toArray, List.mem_cons, List.not_mem_nil, or_false] at he
      rcases he with rfl | rfl | rfl | rfl | rfl | rfl | rfl | rfl | rfl | rfl
      · exact ⟨1, rfl, (by decide : (1 : Int) = hashInt 1)⟩
      · exact ⟨2, rfl, (by decide : (2 : Int) = hashInt 2)⟩
      · exact ⟨4, rfl, (by decide : (4 : Int) = hashInt 4)⟩
      · exact ⟨8, rfl, (by decide : (8 : Int) = hashInt 8)⟩
      · exact ⟨16, rfl, (by decide : (16 : Int) = hashInt 16)⟩
      · exact ⟨32, rfl, (by decide : (32 : Int) = hashInt 32)⟩
      · exact ⟨64, rfl, (by decide : (64 : Int) = hashInt 64)⟩
      · exact ⟨128, rfl, (by decide : (128 : Int) = hashInt 128)⟩
      · exact ⟨256, rfl, (by decide : (256 : Int) = hashInt 256)⟩
      · exact ⟨512, rfl, (by decide : (512 : Int) = hashInt 512)⟩
    · repeat (first | exact .nil | refine .cons rfl rfl ?_)
  · repeat (first | exact .nil | refine .cons (Flat.str _ _) ?_)
noncomputable def nameOf (i : Nat) : PySem.Str := (flagTab.map (·.2)).getD i ""
noncomputable def fl (x i : Nat) : Nat := (x >>> i) <<< i
noncomputable def nm (x i : Nat) : List PySem.Str := ((List.range i).filter (x.testBit ·)).map nameOf
noncomputable def flOk (x i : Nat) : Bool := ((Builtin.bitAnd (fl x i : Int) (1 * 2 ^ i) != 0) == x.testBit i) && (if x.testBit i then Builtin.bitXor (fl x i : Int) (1 * 2 ^ i) == (fl x (i + 1) : Int) else fl x (i + 1) == fl x i)
theorem fl_all : ((List.range 1024).all fun x => (List.range 10).all (flOk x)) = true := by decide +kernel
theorem fl_zero : ((List.range 32).all fun i => Builtin.bitAnd 0 (1 * 2 ^ i) == 0) = true := by decide +kernel
theorem hexLen : ((List.range 10).all fun j => decide ((baseText "0x" 16 (1 * 2 ^ j)).length ≤ 100)) = true := by decide +kernel
theorem hexZero : baseText "0x" 16 0 = ("0x0" : PySem.Str) := by decide +kernel
theorem all_succ {P : Nat → Prop} {n : Nat} (r : ∀ j, j < n → P j) (h : P n) : ∀ j, j < n + 1 → P j := fun j hj => (Nat.lt_succ_iff_lt_or_eq.mp hj).elim (r j) fun e => e ▸ h
theorem tabAt : ∀ j, j < 10 → PySem.Spec.lookup (.int (1 * 2 ^ j)) (flagTab.map fun p => (PyData.int p.1, PyData.str p.2)) = some (.str (nameOf j)) :=
  all_succ (all_succ (all_succ (all_succ (all_succ (all_succ (all_succ (all_succ (all_succ (all_succ (fun j h => absurd h (Nat.not_lt_zero j)) rfl) rfl) rfl) rfl) rfl) rfl) rfl) rfl) rfl) rfl
theorem nm_succ (x i : Nat) : nm x (i + 1) = if x.testBit i then nm x i ++ [nameOf i] else nm x i := by
  unfold nm
  rw [List.range_succ, List.filter_append, List.map_append]
  by_cases h : x.testBit i = true
  · simp [h]
  · simp [h]
theorem nm_len (x : Nat) : ∀ i, (nm x i).length ≤ i
  | 0 => by simp [nm]
  | i + 1 => by
    have := nm_len x i
    rw [nm_succ]; split <;> simp <;> lia
noncomputable def topOk (x : Nat) : Bool := x == 0 || (x.log2 < 10 && x.testBit x.log2 && fl x (x.log2 + 1) == 0 && nm x (x.log2 + 1) == nm x 10 && (List.range x.log2).all fun j => !(x.testBit j) || fl x (j + 1) != 0)
theorem top_all : ((List.range 1024).all topOk) = true := by decide +kernel
noncomputable def prettyP (x : Nat) : PySem.Str := if x = 0 then "0x0" else Txt.join ", " (nm x 10)
end
end

section
open PySem PySem.W PyProof.Rows PySem.Calls PyProof.V
set_option maxHeartbeats 400000
section
variable {D : Wd} {n : Nat} {W W' W'' : Wld}
theorem pretty_zero (f : D.Fit) : CallR D (n + 1) W (.ref 52) [.int 0] [] (.str "0x0") W := by
  refine' CallR.kS f 52 ["flags"] ?e ?hb ?hc ?hok rfl (bind1 ?hbind) ?h
  case e => with_unfolding_all rfl
  case hb => rfl
  case hc => kernel_rfl
  case hok => kernel_rfl
  case hbind => intro v; with_unfolding_all rfl
  case h =>
    intro L env ok
    dsimp only [List.zip_cons_cons, List.zip_nil_left] at ok ⊢
    refine' ExecR.own (W₃ := fun a => (a, .lst []) :: (L, .frame [("flags", .int 0), ("names", .con (.ref a))]) :: W) ?h1 (fun a => ?h2) (fun a => ⟨.ret (.str "0x0") W, ExecK.run ?h5, .ret (List.Sublist.refl _)⟩) (by decide) ?hs
    case h1 => walk_at "m.evs"
    case h2 => walk_at "m.store"
    case hs => rfl
    case h5 =>
      refine' ExecK.perm (List.Perm.swap _ _ _) ?_
      refine' ExecK.for (p := .range 32) (ps := upto 32) (W₁ := (L, .frame [("flags", .int 0), ("names", .con (.ref a))]) :: (a, .lst []) :: W) (W₂ := (L, .frame [("flags", .int 0), ("names", .con (.ref a))]) :: (a, .lst [.str "0x0"]) :: W) ?f1 (IterR.range (by lia) (by lia)) ?f3 ?f4 ?f5
      case f1 => walk_at "m.ev"
      case f5 => intro _; rfl
      case f4 =>
        refine' ExecK.still (W₁ := []) (ps := [.str "0x0"]) (.keep (.turn .nil)) ?g4
        case g4 =>
          dsimp only [List.nil_append]
          have hj : ([("0x0" : PySem.Str)].map (·.length)).sum + [("0x0" : PySem.Str)].length * (", " : PySem.Str).length ≤ 16777216 := by decide
          refine' ExecK.retS (p := .str "0x0") (EvalR.is (E.join (ys := ["0x0"]) ?j1 ?j2 hj ?j3 ?j4 ?j5) ?j6) ?j7
          case j1 => walk_at "m.ev"
          case j2 =>
            refine' EvalsR.cons ?l1 ?l2 .nil
            case l1 => with_unfolding_all rfl
            case l2 => exact EvalR.loc ok (by kernel_rfl) .here (look_there (by kernel_rfl) look_here)
          case j3 => intro _; rfl
          case j4 => decide
          case j5 => rfl
          case j6 => rfl
          case j7 => walk_at "m.sub"
      case f3 =>
        refine' ForR.ix (fun _ => (L, .frame [("flags", .int 0), ("names", .con (.ref a))]) :: (a, .lst []) :: W) _ 0 ?g1 (ExecK.run ?g2)
        case g2 =>
          have hl : (baseText "0x" 16 0).length ≤ 16777216 := by rw [hexZero]; decide
          refine' ExecK.expr ok (EvalR.append (ps := []) (p := .str "0x0") ?a1 ?a2 ?a3 ?a4 ?a5 ?a6 (by decide) ?a7) ?a8 ?a9
          case a1 => intro _; rfl
          case a2 => walk_at "m.ev"
          case a3 => rw [← hexZero]; walk_at "m.ev"
          case a4 => walk_at "m.get"
          case a5 => walk_at "m.wput"
          case a6 => with_unfolding_all rfl
          case a7 => rfl
          case a9 => rfl
          case a8 =>
            walk_at "m.x"
            exact ExecK.done
        case g1 =>
          intro j q hq
          obtain ⟨rfl, hj2⟩ := upto_get hq
          have hj3 : j < 32 := hj2
          have hz0 : (0 : Int) ≤ (j : Int) := by lia
          have hz1 : (j : Int) ≤ 1000000 := by lia
          have hz2 : (1 : Int).natAbs < 2 ^ 64 := by decide
          have hb : (Builtin.bitAnd 0 (1 * 2 ^ ((j : Int)).toNat) != 0) = false := by
            have h1 := List.all_eq_true.mp fl_zero j (List.mem_range.mpr hj3)
            have h2 : Builtin.bitAnd 0 (1 * 2 ^ j) = 0 := by simpa using h1
            show (Builtin.bitAnd 0 (1 * 2 ^ j) != 0) = false
            rw [h2]; rfl
          refine' ⟨_, AssignR.name ?s1, ExecK.run ?b1⟩
          case s1 => walk_at "m.store"
          case b1 =>
            walk_at "m.x"
            refine' ExecK.ifF (TestR.is ?t hb) ?k
            case t => walk_at "m.test"
            case k =>
              walk_at "m.x"
              refine' ExecK.cutF (σ' := [("flags", .int 0), ("names", .con (.ref a))]) ?n1 ?n2
              case n1 => exact .cons (.cons .nil)
              case n2 =>
                walk_at "m.x"
                exact ExecK.done
theorem nameLen : ∀ j, j < 10 → (nameOf j).length ≤ 20 := by decide
theorem pretty_pos (f : D.Fit) (x : Nat) (hx : x < 1024) (h0 : x ≠ 0) : CallR D (n + 1) W (.ref 52) [.int (x : Int)] [] (.str (Txt.join ", " (nm x 10))) W := by
  have htop := List.all_eq_true.mp top_all x (List.mem_range.mpr hx)
  unfold topOk at htop
  simp only [Bool.or_eq_true, Bool.and_eq_true, beq_iff_eq, h0, false_or, decide_eq_true_eq, List.all_eq_true, List.mem_range] at htop
  obtain ⟨⟨⟨⟨ht1, ht2⟩, ht3⟩, ht4⟩, ht5⟩ := htop
  have hfl : ∀ j, j < 10 → (Builtin.bitAnd (fl x j : Int) (1 * 2 ^ j) != 0) = x.testBit j ∧ (x.testBit j = true → Builtin.bitXor (fl x j : Int) (1 * 2 ^ j) = (fl x (j + 1) : Int)) ∧ (x.testBit j = false → fl x (j + 1) = fl x j) := by
    intro j hj
    have h1 := List.all_eq_true.mp (List.all_eq_true.mp fl_all x (List.mem_range.mpr hx)) j (List.mem_range.mpr hj)
    unfold flOk at h1
    rw [Bool.and_eq_true, beq_iff_eq] at h1
    refine ⟨h1.1, fun h => ?_, fun h => ?_⟩
    · have h2 := h1.2; rw [h, if_pos rfl, beq_iff_eq] at h2; exact h2
    · have h2 := h1.2; rw [h, if_neg Bool.false_ne_true, beq_iff_eq] at h2; exact h2
  have hhex : ∀ j, j < 10 → (baseText "0x" 16 (1 * 2 ^ j)).length ≤ 16777216 := by
    intro j hj
    have h1 := List.all_eq_true.mp hexLen j (List.mem_range.mpr hj)
    have := of_decide_eq_true h1
    lia
  refine' CallR.kS f 52 ["flags"] ?e ?hb ?hc ?hok rfl (bind1 ?hbind) ?h
  case e => with_unfolding_all rfl
  case hb => rfl
  case hc => kernel_rfl
  case hok => kernel_rfl
  case hbind => intro v; with_unfolding_all rfl
  case h =>
    intro L env ok
    dsimp only [List.zip_cons_cons, List.zip_nil_left] at ok ⊢
    refine' ExecR.own (W₃ := fun a => (a, .lst []) :: (L, .frame [("flags", .int (x : Int)), ("names", .con (.ref a))]) :: W) ?h1 (fun a => ?h2) (fun a => ⟨.ret (.str (Txt.join ", " (nm x 10))) W, ExecK.run ?h5, .ret (List.Sublist.refl _)⟩) (by decide) ?hs
    case h1 => walk_at "m.evs"
    case h2 => walk_at "m.store"
    case hs => rfl
    case h5 =>
      refine' ExecK.perm (List.Perm.swap _ _ _) ?_
      refine' ExecK.for (p := .range 32) (ps := upto 32) (W₁ := (L, .frame [("flags", .int (x : Int)), ("names", .con (.ref a))]) :: (a, .lst []) :: W) (W₂ := (L, .frame [("flags", .int 0), ("names", .con (.ref a))]) :: (a, .lst ((nm x 10).map .str)) :: W) ?f1 (IterR.range (by lia) (by lia)) ?f3 ?f4 ?f5
      case f1 => walk_at "m.ev"
      case f5 => intro _; rfl
      case f4 =>
        refine' ExecK.still (W₁ := []) (ps := (nm x 10).map .str) (.keep (.turn .nil)) ?g4
        case g4 =>
          dsimp only [List.nil_append]
          have hj : ((nm x 10).map (·.length)).sum + (nm x 10).length * (", " : PySem.Str).length ≤ 16777216 := by
            have h1 := StrLaws.sumLen_le (B := 20) (nm x 10) (fun y hy => by
              obtain ⟨i, hi, rfl⟩ := List.mem_map.mp hy
              have hi2 := List.mem_range.mp (List.mem_filter.mp hi).1
              exact nameLen i hi2)
            have h2 := nm_len x 10
            have h3 : (", " : PySem.Str).length = 2 := by decide
            rw [h3]; lia
          refine' ExecK.retS (E.join ?j1 ?j2 hj ?j3 ?j4 ?j5) ?j7
          case j1 => walk_at "m.ev"
          case j2 => walk_at "m.evs"
          case j3 => intro _; rfl
          case j4 => decide
          case j5 => rfl
          case j7 => walk_at "m.sub"
      case f3 =>
        have e0 : fl x 0 = x := by unfold fl; simp
        refine' (e0 ▸ ForR.ixBrk (fun j => (L, .frame [("flags", .int (fl x j : Int)), ("names", .con (.ref a))]) :: (a, .lst ((nm x j).map .str)) :: W) _ 0 x.log2 (.int (x.log2 : Int)) ?g1 (upto_at (by lia)) ?g2)
        case g1 =>
          intro j q hjl hq
          obtain ⟨rfl, hj2⟩ := upto_get hq
          rw [Nat.zero_add]
          have hj10 : j < 10 := by lia
          obtain ⟨f1, f2, f3⟩ := hfl j hj10
          have f1 : (Builtin.bitAnd (fl x j : Int) (1 * 2 ^ (((j : Nat) : Int)).toNat) != 0) = x.testBit j := f1
          have hz0 : (0 : Int) ≤ ((j : Nat) : Int) := by lia
          have hz1 : ((j : Nat) : Int) ≤ 1000000 := by lia
          have hz2 : (1 : Int).natAbs < 2 ^ 64 := by decide
          have hxl : (baseText "0x" 16 (1 * 2 ^ (((j : Nat) : Int)).toNat)).length ≤ 16777216 := hhex j hj10
          have hzn : ((nm x j).map PV.str).length ≤ 1000 := by rw [List.length_map]; have := nm_len x j; lia
          refine' ⟨_, AssignR.name ?s1, ExecK.run ?b1⟩
          case s1 => walk_at "m.store"
          case b1 =>
            walk_at "m.x"
            cases hb : x.testBit j with
            | false =>
              refine' ExecK.ifF (TestR.is ?t (f1.trans hb)) ?k
              case t => walk_at "m.test"
              case k =>
                walk_at "m.x"
                rw [f3 hb, show nm x (j + 1) = nm x j by rw [nm_succ, if_neg (by rw [hb]; exact Bool.false_ne_true)]]
                refine' ExecK.cutF (σ' := [("flags", .int (fl x j : Int)), ("names", .con (.ref a))]) ?n1 ?n2
                case n1 => exact .cons (.cons .nil)
                case n2 =>
                  walk_at "m.x"
                  exact ExecK.done
            | true =>
              refine' ExecK.ifT (TestR.is ?t (f1.trans hb)) ?k
              case t => walk_at "m.test"
              case k =>
                refine' ExecK.expr ok (EvalR.append (ps := (nm x j).map PV.str) (p := .str (nameOf j)) ?a1 ?a2 (EvalR.getI (flagDict f) ?b1 ?b2 ?b3 (nameOf j) ?b4 ?b5 ?b6) ?a4 ?a5 ?a6 hzn ?a7) ?a8 ?a9
                case a1 => intro _; rfl
                case a2 => walk_at "m.ev"
                case b1 => intro _; rfl
                case b2 => walk_at "m.glob"
                case b3 => walk_at "m.evs"
                case b4 => rw [show (1 : Int) * 2 ^ (((j : Nat) : Int)).toNat = 1 * 2 ^ j from rfl, tabAt j hj10]; rfl
                case b5 => decide
                case b6 => rfl
                case a4 => walk_at "m.get"
                case a5 => walk_at "m.wput"
                case a6 => with_unfolding_all rfl
                case a7 => rfl
                case a9 => rfl
                case a8 =>
                  walk_at "m.x"
                  rw [show Builtin.bitXor (fl x j : Int) (1 * 2 ^ (((j : Nat) : Int)).toNat) = (fl x (j + 1) : Int) from f2 hb]
                  rw [show (nm x j).map PV.str ++ [PV.str (nameOf j)] = (nm x (j + 1)).map PV.str by rw [nm_succ, if_pos hb, List.map_append]; rfl]
                  have hne : (!(((fl x (j + 1) : Nat) : Int) != 0)) = false := by
                    have := ht5 j hjl
                    rw [hb] at this
                    simp at this ⊢
                    lia
                  refine' ExecK.ifF (TestR.is ?t2 hne) ?k2
                  case t2 => walk_at "m.test"
                  case k2 =>
                    walk_at "m.x"
                    refine' ExecK.cutF (σ' := [("flags", .int (fl x (j + 1) : Int)), ("names", .con (.ref a))]) ?n1 ?n2
                    case n1 => exact .cons (.cons .nil)
                    case n2 =>
                      walk_at "m.x"
                      walk_at "m.x"
                      exact ExecK.done
        case g2 =>
          rw [Nat.zero_add]
          have hb := ht2
          have hj10 : x.log2 < 10 := by lia
          obtain ⟨f1, f2, f3⟩ := hfl x.log2 hj10
          have f1 : (Builtin.bitAnd (fl x x.log2 : Int) (1 * 2 ^ (((x.log2 : Nat) : Int)).toNat) != 0) = x.testBit x.log2 := f1
          have hz0 : (0 : Int) ≤ ((x.log2 : Nat) : Int) := by lia
          have hz1 : ((x.log2 : Nat) : Int) ≤ 1000000 := by lia
          have hz2 : (1 : Int).natAbs < 2 ^ 64 := by decide
          have hxl : (baseText "0x" 16 (1 * 2 ^ (((x.log2 : Nat) : Int)).toNat)).length ≤ 16777216 := hhex x.log2 hj10
          have hzn : ((nm x x.log2).map PV.str).length ≤ 1000 := by rw [List.length_map]; have := nm_len x x.log2; lia
          refine' ⟨_, AssignR.name ?s1, ExecK.run ?b1⟩
          case s1 => walk_at "m.store"
          case b1 =>
            walk_at "m.x"
            refine' ExecK.ifT (TestR.is ?t (f1.trans hb)) ?k
            case t => walk_at "m.test"
            case k =>
              refine' ExecK.expr ok (EvalR.append (ps := (nm x x.log2).map PV.str) (p := .str (nameOf x.log2)) ?a1 ?a2 (EvalR.getI (flagDict f) ?b1 ?b2 ?b3 (nameOf x.log2) ?b4 ?b5 ?b6) ?a4 ?a5 ?a6 hzn ?a7) ?a8 ?a9
              case a1 => intro _; rfl
              case a2 => walk_at "m.ev"
              case b1 => intro _; rfl
              case b2 => walk_at "m.glob"
              case b3 => walk_at "m.evs"
              case b4 => rw [show (1 : Int) * 2 ^ (((x.log2 : Nat) : Int)).toNat = 1 * 2 ^ x.log2 from rfl, tabAt x.log2 hj10]; rfl
              case b5 => decide
              case b6 => rfl
              case a4 => walk_at "m.get"
              case a5 => walk_at "m.wput"
              case a6 => with_unfolding_all rfl
              case a7 => rfl
              case a9 => rfl
              case a8 =>
                walk_at "m.x"
                rw [show Builtin.bitXor (fl x x.log2 : Int) (1 * 2 ^ (((x.log2 : Nat) : Int)).toNat) = (fl x (x.log2 + 1) : Int) from f2 hb]
                rw [show (nm x x.log2).map PV.str ++ [PV.str (nameOf x.log2)] = (nm x (x.log2 + 1)).map PV.str by rw [nm_succ, if_pos hb, List.map_append]; rfl]
                rw [ht3, ht4]
                refine' ExecK.ifT (TestR.is (b := !(((0 : Nat) : Int) != 0)) ?t2 (by decide)) ?k2
                case t2 => walk_at "m.test"
                case k2 =>
                  refine' ExecK.cutF (σ' := [("flags", .int 0), ("names", .con (.ref a))]) ?n1 ?n2
                  case n1 => exact .cons (.cons .nil)
                  case n2 => exact ExecK.brk
theorem pretty_c (f : D.Fit) {x : Nat} (hx : x < 1024) (hn : 1 ≤ n) : CallR D n W (.ref 52) [.int (x : Int)] [] (.str (prettyP x)) W := by
  unfold prettyP
  split
  · rename_i h; subst h; exact (pretty_zero (n := 0) f).mono hn
  · rename_i h; exact (pretty_pos (n := 0) f x hx h).mono hn
end
end

local macro_rules | `(tactic| walk_at $s) => lines s "truth: TruthR.tup 1 ; 1 fact"
section
open PySem PySem.W PyProof.Rows PySem.Calls PyProof.V
set_option maxHeartbeats 1000000
section
variable {D : Wd} {n : Nat} {W W' W'' : Wld}
noncomputable def goodC (c : PySem.Str) : Bool := c.length != 0 && c != "."
noncomputable def compsP (x : PySem.Str) : List PySem.Str := (Txt.split x "/").filter goodC
noncomputable def splitP (p : PV) : PV := match p with | .str z => .list ((Txt.split z "/").map PV.str) | _ => .none
noncomputable def filtP (p : PV) : PV := match p with | .list qs => .list (qs.filterMap (onlyP goodC)) | _ => .none
theorem cps_tri {a b : PySem.Str} (h : a ≠ b) : (a.cps.toList < b.cps.toList ∧ ¬ b.cps.toList < a.cps.toList) ∨ (b.cps.toList < a.cps.toList ∧ ¬ a.cps.toList < b.cps.toList) := by
  by_cases h1 : a.cps.toList < b.cps.toList
  · exact .inl ⟨h1, List.lt_asymm h1⟩
  · by_cases h2 : b.cps.toList < a.cps.toList
    · exact .inr ⟨h2, h1⟩
    · exfalso
      have e : a.cps.toList = b.cps.toList := List.le_antisymm (List.not_lt.mp h2) (List.not_lt.mp h1)
      apply h
      obtain ⟨⟨a⟩⟩ := a
      obtain ⟨⟨b⟩⟩ := b
      simp only at e
      rw [e]
theorem split_part_le (x y c : PySem.Str) (h : c ∈ Txt.split x y) : c.length ≤ x.length := by
  unfold Txt.split at h
  split at h
  · rw [List.mem_singleton.mp h]; exact Nat.le_refl _
  · split at h
    · rw [List.mem_singleton.mp h]; exact Nat.le_refl _
    · unfold Builtin.Str.partsBetween at h
      obtain ⟨p, hp, rfl⟩ := List.mem_map.mp h
      exact PySem.le_strSub _ _ _
theorem compsP_len (x : PySem.Str) : (compsP x).length ≤ x.length + 2 := Nat.le_trans (List.length_filter_le _ _) (split_length_le x "/")
theorem common_spec (f : D.Fit) (x y : PySem.Str) (hx : x.length ≤ 5000) (hy : y.length ≤ 5000) (sx : Txt.startswith x "/" = true) (sy : Txt.startswith y "/" = true) (d : Nat) (a b : PySem.Str) (hp : PartS (compsP x) (compsP y) d a b)
    (hj : (((compsP x).take d).map (·.length)).sum + ((compsP x).take d).length * ("/" : PySem.Str).length ≤ 100000) (hj2 : (Txt.join "/" ((compsP x).take d)).length ≤ 1000000) :
    CallR D (n + 20) W (.ref 172) [.list [.str x, .str y]] [] (.str ("/" ++ Txt.join "/" ((compsP x).take d))) W := by
  have hcx := compsP_len x
  have hcy := compsP_len y
  have hsx := split_length_le x "/"
  have hsy := split_length_le y "/"
  have htake : (compsP y).take d = (compsP x).take d := by
    apply List.ext_getElem?
    intro i
    by_cases hi : i < d
    · rw [List.getElem?_take_of_lt hi, List.getElem?_take_of_lt hi]
      obtain ⟨z, h1, h2⟩ := hp.pre i hi
      rw [h1, h2]
    · rw [List.getElem?_eq_none (by rw [List.length_take]; lia), List.getElem?_eq_none (by rw [List.length_take]; lia)]
  obtain ⟨S1, S2, u, v, hS1, hS2, hS, hT⟩ : ∃ S1 S2 u v, (if b.cps.toList < a.cps.toList then compsP y else compsP x) = S1 ∧ (if a.cps.toList < b.cps.toList then compsP y else compsP x) = S2 ∧ PartS S1 S2 d u v ∧ S1.take d = (compsP x).take d := by
    rcases cps_tri hp.ne with ⟨h1, h2⟩ | ⟨h1, h2⟩
    · exact ⟨compsP x, compsP y, a, b, if_neg h2, if_pos h1, hp, rfl⟩
    · exact ⟨compsP y, compsP x, b, a, if_pos h1, if_neg h2, hp.symm, htake⟩
  have hS1l : S1.length ≤ 6000 := by rw [← hS1]; split <;> lia
  have hS2l : S2.length ≤ 6000 := by rw [← hS2]; split <;> lia
  have hcomp : List.map filtP (List.map splitP [PV.str x, PV.str y]) = [PV.list ((compsP x).map PV.str), PV.list ((compsP y).map PV.str)] := by
    simp only [List.map_cons, List.map_nil, splitP, filtP, onlyP_map]
    rfl
  have hmin : ∀ W, CallR D (n + 19) W (.builtin "min") [.list [PV.list ((compsP x).map PV.str), PV.list ((compsP y).map PV.str)]] [] (.list (S1.map PV.str)) W := fun W => hS1 ▸ CallR.min2 hp
  have hmax : ∀ W, CallR D (n + 19) W (.builtin "max") [.list [PV.list ((compsP x).map PV.str), PV.list ((compsP y).map PV.str)]] [] (.list (S2.map PV.str)) W := fun W => hS2 ▸ CallR.max2 hp
  refine' CallR.kC f 172 ["paths"] (fun L => [("curdir", L + 1 + 1), ("sep", L + 1)]) ?e ?hb ?hc ?hok rfl (bind1 ?hbind) ?hcl ?hlk ?h
  case e => with_unfolding_all rfl
  case hb => rfl
  case hc => kernel_rfl
  case hok => kernel_rfl
  case hbind => intro v; with_unfolding_all rfl
  case hcl => intro L; rfl
  case hlk =>
    intro L p hp
    simp only [List.mem_cons, List.not_mem_nil, or_false] at hp
    first | (obtain rfl := hp; exact look_here) | (rcases hp with rfl | rfl; exact look_here; exact look_there (by kernel_rfl) look_here)
  case h =>
    intro L env ok
    simp only [List.zip_cons_cons, List.zip_nil_left, List.map_cons, List.map_nil, List.cons_append, List.nil_append] at ok ⊢
    refine' ExecK.run ?hh
    case hh =>
      refine' ExecK.assign (EvalR.is (EvalR.tupleMap (n := n + 11) (out := fun p => p) ?t1 ?t2 ?t3 ?t4 ?t5 ?t6) ?t7) ?a2 ?a3 ?a4
      case t1 => walk_at "m.glob"
      case t2 => walk_at "m.glob"
      case t3 => walk_at "m.evs"
      case t4 =>
        intro p hp
        simp only [List.mem_cons, List.not_mem_nil, or_false] at hp
        rcases hp with rfl | rfl
        · exact fspath_c (by assumption) (by lia)
        · exact fspath_c (by assumption) (by lia)
      case t5 => exact Nat.le_of_ble_eq_true rfl
      case t6 => with_unfolding_all rfl
      case t7 => rw [List.map_id']
      case a2 => walk_at "m.store"
      case a4 => rfl
      case a3 =>
        have hg0 : [PV.str x, PV.str y][((0 : Int)).toNat]? = some (PV.str x) := rfl
        have hpl : [PV.str x, PV.str y].length ≤ 1000000 := Nat.le_of_ble_eq_true rfl
        walk_at "m.x"
        case k2 => intro h; cases h
        case k3 =>
          intro _
          walk_at "m.x"
          walk_at "m.x"
          case k2 => intro h; cases h
          case k3 =>
            intro _
            walk_at "m.x"
            walk_at "m.x"
            walk_at "m.x"
            refine' ExecK.try ?t
            refine' ExecK.st (ExecS.assignCompA splitP ok ?c1 IterR.tup rfl ?c2 ?c3 ?c4 ?c5 ?c7 ?c71 ?c8 ?c9 ?c10 ?c11 ?c12 ?c13) ?k2
            case c1 => walk_at "m.ev"
            case c2 => decide
            case c3 =>
              intro q hq hk
              simp only [List.mem_cons, List.not_mem_nil, or_false] at hq
              rcases hq with rfl | rfl | rfl <;> first | (cases hk; done) | rfl
            case c4 => decide
            case c5 => kernel_rfl
            case c7 =>
              intro C cenv okc q hq
              have okc : EnvOk cenv C [(".0", .local), ("path", .local), ("sep", .cell)] [("sep", L + 1)] := okc
              simp only [List.mem_cons, List.not_mem_nil, or_false] at hq
              rcases hq with rfl | rfl
              · have hz : x.length ≤ 1000000 := by lia
                show EvalR _ _ _ _ _ (PV.list ((Txt.split x "/").map PV.str)) _
                walk_at "m.ev"
              · have hz : y.length ≤ 1000000 := by lia
                show EvalR _ _ _ _ _ (PV.list ((Txt.split y "/").map PV.str)) _
                walk_at "m.ev"
            case c71 => exact Nat.le_of_ble_eq_true rfl
            case c8 => walk_at "m.store"
            case c9 => kernel_rfl
            case c10 => intro h; exact h
            case c11 => rfl
            case c12 => kernel_rfl
            case c13 => intro _; rfl
            case k2 =>
              refine' ExecK.try (ExecK.st (ExecS.allTrue (ps := [PV.str x, PV.str y]) ok ?d1 IterR.tup rfl rfl ?d2 ?d3 ?d4 ?d5 ?d6 ?d7 ?d8 ?d9) ?d10)
              case d1 => walk_at "m.ev"
              case d2 => decide
              case d3 =>
                intro q hq hk
                simp only [List.mem_cons, List.not_mem_nil, or_false] at hq
                rcases hq with rfl | rfl | rfl <;> first | (cases hk; done) | rfl
              case d4 => decide
              case d5 => kernel_rfl
              case d6 =>
                intro C cenv okc q hq
                have okc : EnvOk cenv C [(".0", .local), ("p", .local), ("sep", .cell)] [("sep", L + 1)] := okc
                simp only [List.mem_cons, List.not_mem_nil, or_false] at hq
                rcases hq with rfl | rfl
                · refine' EvalR.is ?e1 ?e2
                  case e1 => walk_at "m.ev"
                  case e2 => rw [sx]
                · refine' EvalR.is ?e1 ?e2
                  case e1 => walk_at "m.ev"
                  case e2 => rw [sy]
              case d7 => walk_at "m.store"
              case d8 => intro _; rfl
              case d9 => rfl
              case d10 =>
                walk_at "m.x"
                refine' ExecK.st (ExecS.assignCompA filtP ok ?c1 IterR.list rfl ?c2 ?c3 ?c4 ?c5 ?c7 ?c71 ?c8 ?c9 ?c10 ?c11 ?c12 ?c13) ?k2
                case c1 => walk_at "m.ev"
                case c2 => decide
                case c3 =>
                  intro q hq hk
                  simp only [List.mem_cons, List.not_mem_nil, or_false] at hq
                  rcases hq with rfl | rfl | rfl <;> first | (cases hk; done) | rfl
                case c4 => decide
                case c5 => kernel_rfl
                case c7 =>
                  intro C cenv okc q hq
                  have okc : EnvOk cenv C [(".0", .local), ("s", .local), ("curdir", .cell)] [("curdir", L + 1 + 1)] := okc
                  obtain ⟨z, hz, hzc, rfl⟩ : ∃ z : PySem.Str, (Txt.split z "/").length ≤ 100000 ∧ (∀ c ∈ Txt.split z "/", c.length ≤ 16777216) ∧ q = .list ((Txt.split z "/").map PV.str) := by
                    simp only [splitP, List.map_cons, List.map_nil, List.mem_cons, List.not_mem_nil, or_false] at hq
                    rcases hq with rfl | rfl
                    · exact ⟨x, by lia, fun c hc => by have := split_part_le x "/" c hc; lia, rfl⟩
                    · exact ⟨y, by lia, fun c hc => by have := split_part_le y "/" c hc; lia, rfl⟩
                  show EvalR _ _ _ _ _ (PV.list (((Txt.split z "/").map PV.str).filterMap (onlyP goodC))) _
                  · refine' EvalR.comp1 (onlyP goodC) okc ?h1 IterR.list ?kind ?hcell ?hfree ?hnames ?hx ?h3 ?h4 ?h5
                    case h1 => walk_at "m.ev"
                    case kind => rfl
                    case hcell => decide
                    case hfree =>
                      intro q hq hk
                      simp only [List.mem_cons, List.not_mem_nil, or_false] at hq
                      rcases hq with rfl | rfl | rfl <;> first | (cases hk; done) | rfl
                    case hnames => decide
                    case hx => kernel_rfl
                    case h5 =>
                      rw [onlyP_map, List.length_map]
                      have := List.length_filter_le goodC (Txt.split z "/")
                      lia
                    case h3 =>
                      intro C2 cenv2 okc2 q hq ho
                      have okc2 : EnvOk cenv2 C2 [(".0", .local), ("c", .local), ("curdir", .cell)] [("curdir", L + 1 + 1)] := okc2
                      obtain ⟨y, hy, rfl⟩ := List.mem_map.mp hq
                      have hyl := hzc y hy
                      refine' IfsR.no (TestR.is (b := (y.length != 0 && y != ".")) ?a (onlyP_none ho))
                      case a => walk_at "m.test"
                    case h4 =>
                      intro C2 cenv2 okc2 q hq z2 ho
                      have okc2 : EnvOk cenv2 C2 [(".0", .local), ("c", .local), ("curdir", .cell)] [("curdir", L + 1 + 1)] := okc2
                      obtain ⟨y, hy, rfl⟩ := List.mem_map.mp hq
                      have hyl := hzc y hy
                      obtain ⟨hb, rfl⟩ := onlyP_some ho
                      refine' ⟨IfsR.yes (TestR.is (b := (y.length != 0 && y != ".")) ?a hb) .nil, ?b⟩
                      case a => walk_at "m.test"
                      case b => walk_at "m.ev"
                case c71 => exact Nat.le_of_ble_eq_true rfl
                case c8 =>
                  rw [hcomp]
                  walk_at "m.store"
                case c9 => kernel_rfl
                case c10 => intro h; exact h
                case c11 => rfl
                case c12 => kernel_rfl
                case c13 => intro _; rfl
                case k2 =>
                  refine' ExecK.assign (EvalR.call ?m1 ?m2 ?m3 (hmin _)) ?m4 ?m5 ?m6
                  case m1 => walk_at "m.glob"
                  case m2 => walk_at "m.keep"
                  case m3 => walk_at "m.evs"
                  case m4 => walk_at "m.store"
                  case m6 => rfl
                  case m5 =>
                    refine' ExecK.assign (EvalR.call ?m1 ?m2 ?m3 (hmax _)) ?m4 ?m5 ?m6
                    case m1 => walk_at "m.glob"
                    case m2 => walk_at "m.keep"
                    case m3 => walk_at "m.evs"
                    case m4 => walk_at "m.store"
                    case m6 => rfl
                    case m5 =>
                      walk_at "m.x"
                      have hd1 : d < S1.length := (List.getElem?_eq_some_iff.mp hS.l).1
                      let Wl : Wld := (L, .frame [("paths", .tup [.str x, .str y]), ("split_paths", .list [PV.list ((compsP x).map PV.str), PV.list ((compsP y).map PV.str)]), ("isabs", .bool true), ("s1", .list (S1.map PV.str)), ("s2", .list (S2.map PV.str)), ("common", .list (S1.map PV.str))]) :: (L + 1 + 1, .cell (some (.str "."))) :: (L + 1, .cell (some (.str "/"))) :: W
                      refine' ExecK.st (ExecS.forEnum (W₂ := Wl) (o := .next ((L, .frame [("paths", .tup [.str x, .str y]), ("split_paths", .list [PV.list ((compsP x).map PV.str), PV.list ((compsP y).map PV.str)]), ("isabs", .bool true), ("s1", .list (S1.map PV.str)), ("s2", .list (S2.map PV.str)), ("common", .list ((S1.take d).map PV.str))]) :: (L + 1 + 1, .cell (some (.str "."))) :: (L + 1, .cell (some (.str "/"))) :: W)) ?f1 ?f2 ?f3 ?f4) ?f5
                      case f1 => walk_at "m.glob"
                      case f2 => walk_at "m.evs"
                      case f4 => intro _; rfl
                      case f3 =>
                        have hget1 : ∀ (i : Nat) (z : PySem.Str), S1[i]? = some z → (numbered' (S1.map PV.str))[i]? = some (PV.tup [PV.int i, PV.str z]) := fun i z h => numbered_get (by rw [List.getElem?_map, h]; rfl)
                        refine' ForR.ixBrk (fun _ => Wl) _ 0 d _ ?g1 (hget1 d u hS.l) ?g2
                        case g1 =>
                          intro j q hj hq
                          obtain ⟨z, hz1, hz2⟩ := hS.pre j hj
                          rw [hget1 j z hz1] at hq
                          obtain rfl := Option.some.inj hq
                          have hi2 : (S2.map PV.str)[((j : Nat) : Int).toNat]? = some (PV.str z) := by rw [List.getElem?_map]; show (S2[j]?).map _ = _; rw [hz2]; rfl
                          have hj0 : (0 : Int) ≤ ((j : Nat) : Int) := by lia
                          have hj1 : ((j : Nat) : Int) < 2 ^ 62 := by lia
                          refine' ⟨_, AssignR.tup (AssignsR.cons ?a1 (AssignR.name ?a2) (AssignsR.cons ?a3 (AssignR.name ?a4) .nil)), ExecK.run ?b1⟩
                          case a1 => with_unfolding_all rfl
                          case a2 => walk_at "m.store"
                          case a3 => with_unfolding_all rfl
                          case a4 => walk_at "m.store"
                          case b1 =>
                            refine' ExecK.ifF (TestR.is ?tt1 (show (z != z) = false by simp)) ?kk1
                            case tt1 => walk_at "m.test"
                            case kk1 =>
                              walk_at "m.x"
                              refine' ExecK.cutF (σ' := [("paths", .tup [.str x, .str y]), ("split_paths", .list [PV.list ((compsP x).map PV.str), PV.list ((compsP y).map PV.str)]), ("isabs", .bool true), ("s1", .list (S1.map PV.str)), ("s2", .list (S2.map PV.str)), ("common", .list (S1.map PV.str))]) ?n1 ?n2
                              case n1 => walk_at "m.subsig"
                              case n2 =>
                                walk_at "m.x"
                                exact ExecK.done
                        case g2 =>
                          have hi2 : (S2.map PV.str)[((d : Nat) : Int).toNat]? = some (PV.str v) := by rw [List.getElem?_map]; show (S2[d]?).map _ = _; rw [hS.r]; rfl
                          have hj0 : (0 : Int) ≤ ((d : Nat) : Int) := by lia
                          have hj1 : ((d : Nat) : Int) < 2 ^ 62 := by lia
                          have hsl : (S1.map PV.str).length ≤ 1000000 := by rw [List.length_map]; lia
                          refine' ⟨_, AssignR.tup (AssignsR.cons ?a1 (AssignR.name ?a2) (AssignsR.cons ?a3 (AssignR.name ?a4) .nil)), ExecK.run ?b1⟩
                          case a1 => with_unfolding_all rfl
                          case a2 => walk_at "m.store"
                          case a3 => with_unfolding_all rfl
                          case a4 => walk_at "m.store"
                          case b1 =>
                            refine' ExecK.ifT (TestR.is ?tt1 (show (u != v) = true by simpa using hS.ne)) ?kk1
                            case tt1 => walk_at "m.test"
                            case kk1 =>
                              walk_at "m.x"
                              rw [show List.take ((d : Nat) : Int).toNat (S1.map PV.str) = (S1.take d).map PV.str from (List.map_take ..).symm]
                              refine' ExecK.cutF (σ' := [("paths", .tup [.str x, .str y]), ("split_paths", .list [PV.list ((compsP x).map PV.str), PV.list ((compsP y).map PV.str)]), ("isabs", .bool true), ("s1", .list (S1.map PV.str)), ("s2", .list (S2.map PV.str)), ("common", .list ((S1.take d).map PV.str))]) ?n1 ?n2
                              case n1 => walk_at "m.subsig"
                              case n2 => exact ExecK.brk
                      case f5 =>
                        rw [hT]
                        have hjj : (((compsP x).take d).map (·.length)).sum + ((compsP x).take d).length * ("/" : PySem.Str).length ≤ 16777216 := by lia
                        have h1 : ("/" : PySem.Str).length = 1 := by decide
                        have hadd : ("/" : PySem.Str).length + (Txt.join "/" ((compsP x).take d)).length ≤ 16777216 := by lia
                        refine' ExecK.assign (EvalR.ite ?e1 ?e2 ?e3) ?e4 ?e5 ?e6
                        case e1 => walk_at "m.test"
                        case e2 => intro _; walk_at "m.ev"
                        case e3 => intro h; cases h
                        case e4 => walk_at "m.store"
                        case e6 => rfl
                        case e5 =>
                          refine' ExecK.retS ?r1 ?r2
                          case r1 => walk_at "m.ev"
                          case r2 => walk_at "m.sub"
theorem common_c (f : D.Fit) {x y : PySem.Str} (hx : x.length ≤ 5000) (hy : y.length ≤ 5000) (sx : Txt.startswith x "/" = true) (sy : Txt.startswith y "/" = true) {d : Nat} {a b : PySem.Str} (hp : PartS (compsP x) (compsP y) d a b)
    (hj : (((compsP x).take d).map (·.length)).sum + ((compsP x).take d).length * ("/" : PySem.Str).length ≤ 100000) (hj2 : (Txt.join "/" ((compsP x).take d)).length ≤ 1000000) (hn : 20 ≤ n) :
    CallR D n W (.ref 172) [.list [.str x, .str y]] [] (.str ("/" ++ Txt.join "/" ((compsP x).take d))) W := (common_spec (n := 0) f x y hx hy sx sy d a b hp hj hj2).mono hn
end
end

section
open PySem PySem.Sre
noncomputable def codeA : Array Nat := #[14, 17, 4, 1, 1, 21, 9, 0, 604043296, 1, 0, 0, 0, 0, 0, 8, 4, 0, 13, 14, 21, 9, 0, 604043296, 1, 0, 0, 0, 0, 0, 8, 4, 0, 1]
noncomputable def alph : List Nat := [47, 97, 98, 39, 32, 34, 35]
noncomputable def unsafeC (c : Nat) : Bool := !(c == 47 || c == 97 || c == 98)
theorem inSet_a {c : Nat} (hc : c ∈ alph) (seen : Sre.Seen) : ∃ seen', inSet codeA c codeA.size 5 true seen = .ok (unsafeC c, seen') := by
  simp only [alph, List.mem_cons, List.not_mem_nil, or_false] at hc
  rcases hc with rfl | rfl | rfl | rfl | rfl | rfl | rfl <;> exact ⟨_, rfl⟩
theorem inSet_b {c : Nat} (hc : c ∈ alph) (seen : Sre.Seen) : ∃ seen', inSet codeA c codeA.size 20 true seen = .ok (unsafeC c, seen') := by
  simp only [alph, List.mem_cons, List.not_mem_nil, or_false] at hc
  rcases hc with rfl | rfl | rfl | rfl | rfl | rfl | rfl <;> exact ⟨_, rfl⟩
theorem admitted_spec (m : M) (hcode : m.code = codeA) (hall : ∀ i < m.lim, m.text.getD i 0 ∈ alph) : ∀ (fuel s : Nat) (seen : Sre.Seen), m.lim - s < fuel →
    (∃ s' seen', m.admitted fuel s seen = .ok (some s', seen') ∧ s' < m.lim ∧ unsafeC (m.text.getD s' 0) = true) ∨ (∃ seen', m.admitted fuel s seen = .ok (none, seen') ∧ ∀ i, s ≤ i → i < m.lim → unsafeC (m.text.getD i 0) = false)
  | 0, s, seen, h => absurd h (Nat.not_lt_zero _)
  | fuel + 1, s, seen, h => by
    unfold M.admitted
    by_cases hs : s ≥ m.lim
    · rw [if_pos hs]
      exact .inr ⟨seen, rfl, fun i h1 h2 => by omega⟩
    · rw [if_neg hs, hcode]
      obtain ⟨seen', e⟩ := inSet_a (hall s (by omega)) seen
      rw [e]
      cases hu : unsafeC (m.text.getD s 0) with
      | true => exact .inl ⟨s, seen', rfl, by omega, hu⟩
      | false =>
        dsimp only
        rcases admitted_spec m hcode hall fuel (s + 1) seen' (by omega) with ⟨s', seen'', e2, h1, h2⟩ | ⟨seen'', e2, h1⟩
        · exact .inl ⟨s', seen'', e2, h1, h2⟩
        · refine .inr ⟨seen'', e2, fun i h3 h4 => ?_⟩
          by_cases hi : i = s
          · rw [hi]; exact hu
          · exact h1 i (by omega) h4
noncomputable def safeT (x : Array Nat) : Bool := x.toList.all fun c => !unsafeC c
noncomputable def mm (x : Array Nat) : M := { code := codeA, text := x, lim := x.size, start := 0, lastStart := x.size, pc := 18, pos := 0, handed := 0, marks := #[], seen := ({} : Sre.Seen).add 14, mustAdvance := false }
theorem search_eq (x : Array Nat) (hx : 0 < x.size) : forSearch codeA x 0 0 x.size false = (mm x).attemptFrom 0 true := by
  unfold forSearch
  have e : (header codeA).1 = 1 := rfl
  have h0 : (decide (0 > x.size) || decide (x.size - 0 < (header codeA).1)) = false := by
    rw [e, Bool.or_eq_false_iff]; exact ⟨decide_eq_false (by omega), decide_eq_false (by omega)⟩
  dsimp only
  rw [h0]
  rfl
theorem failed_run (x : Array Nat) (sn : Sre.Seen) : (M.runFor 4 (({ mm x with seen := sn } : M).say false)).outcome = some .failed := rfl
noncomputable def m0 (x : Array Nat) (s : Nat) (sn : Sre.Seen) : M := ({ mm x with mustAdvance := false, seen := sn } : M).attemptAt s true
noncomputable def m1 (x : Array Nat) (s : Nat) (sn : Sre.Seen) : M := { m0 x s sn with pc := 33, pos := s + 1 }
theorem step_a (x : Array Nat) (s : Nat) (sn : Sre.Seen) (hs : s < x.size) (ha : x.getD s 0 ∈ alph) (hu : unsafeC (x.getD s 0) = true) : ∃ sn', (m0 x s sn).step = m1 x s sn' := by
  have e0 : (m0 x s sn).step = (m0 x s sn).exec := rfl
  obtain ⟨sn', hi⟩ := inSet_b ha (sn.add 13)
  rw [hu] at hi
  refine ⟨sn', ?_⟩
  rw [e0]
  unfold M.exec
  have hop : ops[(m0 x s sn).word 0]? = some .IN := rfl
  rw [hop]
  dsimp only
  have hacc : accepts (m0 x s sn).code (m0 x s sn).pc ((m0 x s sn).text.getD (m0 x s sn).pos 0) ((m0 x s sn).seen.add ((m0 x s sn).word 0)) = .ok (true, sn') := hi
  rw [hacc, if_neg (show ¬ ((m0 x s sn).pos ≥ (m0 x s sn).lim) from Nat.not_le.mpr hs)]
  rfl
theorem matched_run (x : Array Nat) (s : Nat) (sn : Sre.Seen) : (M.runFor 3 (m1 x s sn)).outcome = some .matched ∧ (M.runFor 3 (m1 x s sn)).marks = #[] ∧ (M.runFor 3 (m1 x s sn)).lastmark = -1 := ⟨rfl, rfl, rfl⟩
theorem run_ok (x : Array Nat) (hx : 0 < x.size) (hall : ∀ c ∈ x, c ∈ alph) : (safeT x = true → (M.runFor 4 (forSearch codeA x 0 0 x.size false)).outcome = some .failed) ∧ (safeT x = false → (M.runFor 4 (forSearch codeA x 0 0 x.size false)).outcome = some .matched ∧ (M.runFor 4 (forSearch codeA x 0 0 x.size false)).marks = #[] ∧ (M.runFor 4 (forSearch codeA x 0 0 x.size false)).lastmark = -1) := by
  have hget : ∀ i < x.size, x.getD i 0 ∈ alph := fun i hi => by
    have : x.getD i 0 = x[i] := by simp [hi]
    rw [this]; exact hall _ (Array.getElem_mem hi)
  rw [search_eq x hx]
  unfold M.attemptFrom
  have hf : (!(mm x).hasFirstSet) = false := rfl
  rw [if_neg (by rw [hf]; exact Bool.false_ne_true)]
  rcases admitted_spec (mm x) rfl hget ((mm x).lim + 1 - 0) 0 (mm x).seen (by show x.size - 0 < x.size + 1 - 0; omega) with ⟨s', seen', e, h1, h2⟩ | ⟨seen', e, h1⟩
  · rw [e]
    have hns : safeT x = false := by
      rw [Bool.eq_false_iff]
      intro hs
      have h1' : s' < x.size := h1
      have e3 : x.getD s' 0 = x[s'] := by simp [h1']
      have hm : x.getD s' 0 ∈ x.toList := by rw [e3]; exact Array.mem_toList_iff.mpr (Array.getElem_mem h1')
      have := List.all_eq_true.mp hs _ hm
      have h2' : unsafeC (x.getD s' 0) = true := h2
      rw [h2'] at this; cases this
    obtain ⟨sn', h3⟩ := step_a x s' seen' h1 (hget s' h1) h2
    refine ⟨fun h => absurd (hns.symm.trans h) Bool.false_ne_true, fun _ => ?_⟩
    have h4 : M.runFor 4 (m0 x s' seen') = M.runFor 3 (m1 x s' sn') := by rw [← h3]; rfl
    show (M.runFor 4 (m0 x s' seen')).outcome = _ ∧ (M.runFor 4 (m0 x s' seen')).marks = _ ∧ (M.runFor 4 (m0 x s' seen')).lastmark = _
    rw [h4]
    exact matched_run x s' sn'
  · rw [e]
    have hs : safeT x = true := by
      refine List.all_eq_true.mpr fun c hc => ?_
      obtain ⟨i, hi, rfl⟩ := Array.mem_iff_getElem.mp (Array.mem_toList_iff.mp hc)
      have := h1 i (Nat.zero_le _) hi
      have e3 : x.getD i 0 = x[i] := by simp [hi]
      have this' : unsafeC (x.getD i 0) = false := this
      rw [e3] at this'
      rw [this']; rfl
    refine ⟨fun _ => ?_, fun h => absurd (h.symm.trans hs) Bool.false_ne_true⟩
    exact failed_run x seen'
end

section
open PySem PySem.W PyProof.Rows PySem.Calls PyProof.V PySem.Builtin.Re
noncomputable def boundOb : Obj := { cls := .type "builtin_function_or_method", data := .fields #[.builtin "re.Pattern.search", .ref 177] }
noncomputable def patOb : Obj := { cls := .type "re.Pattern", data := .fields #[.str "[^\\w@%+=:,./-]" 544, .int 256 581, .int 0 0, .none, .none, .ref 176, .int 0 0] }
noncomputable def codeOb : Obj := { cls := .type "tuple", data := .seq (codeA.map fun (k : Nat) => Value.int k 0) }
theorem entry_search : entryFor table "re.Pattern.search" = some Builtin.«re.Pattern.search» := entryFor_of_tree (by kernel_rfl)
theorem plain_search : plainId "re.Pattern.search" = true := by decide +kernel
section
variable {prog : Program} {w : World} {A : Around} {E : Value → Shared → Prop} {s : Shared}
theorem ruleLoop {M : Model} (c : Nat → Bool) (tag : Nat → String) {Q : PUnit → Shared → Prop} (h : Q ⟨⟩ s) : ∀ l : List Nat, wpAny M A (forIn l PUnit.unit fun i (_ : PUnit) => if c i = true then (do rule (tag i); pure (ForInStep.yield PUnit.unit)) else pure (ForInStep.yield PUnit.unit)) Q E s
  | [] => by rw [List.forIn_nil]; exact wpAny_pure h
  | i :: l => by
    rw [List.forIn_cons]
    refine wpAny_bind ?_
    split
    · refine wpAny_bind (wpAny_rule (wpAny_pure ?_))
      exact ruleLoop c tag h l
    · refine wpAny_pure ?_
      exact ruleLoop c tag h l
theorem reDrive_eq (m : Sre.M) (h : (m.runFor 4).outcome.isSome = true) : reDrive (2 ^ 64) m = pure (m.runFor 4) := by
  rw [show (2 ^ 64 : Nat) = 18446744073709551615 + 1 from rfl, reDrive]
  exact if_pos h
theorem reRun {m : Sre.M} {Q : Option Sre.M → Shared → Prop} (h : ((m.runFor 4).outcome = some .failed ∧ Q none s) ∨ ((m.runFor 4).outcome = some .matched ∧ Q (some (m.runFor 4)) s)) : wpAny (model prog w) A (reRunToEnd m) Q E s := by
  unfold reRunToEnd
  have hs : (m.runFor 4).outcome.isSome = true := by rcases h with ⟨h, _⟩ | ⟨h, _⟩ <;> rw [h] <;> rfl
  rw [reDrive_eq m hs]
  refine wpAny_bind (wpAny_pure ?_)
  refine wpAny_bind (wpAny_mono (ruleLoop (Q := fun _ s' => s' = s) (fun i => (m.runFor 4).seen.has i) (fun i => Sre.names.getD i "") rfl _) (fun _ s' e => ?_) fun _ _ e => e)
  subst e
  rcases h with ⟨h, q⟩ | ⟨h, q⟩
  · rw [h]; exact wpAny_pure q
  · rw [h]; exact wpAny_pure q
theorem reNamed_1 (v : Value) : reNamed "re.Pattern.search" "search" ["string", "pos", "endpos"] 1 [v] [] = pure [some v, none, none] := by
  first | rfl | kernel_rfl
theorem codes_eq : ((codeA.map fun (k : Nat) => Value.int k 0).map reRawOf).map (·.toNat) = codeA := by decide +kernel
theorem reTarget_1 {x : PySem.Str} {t : Tok} {Q : ReTarget → Shared → Prop} (hp : s.heap.get? 177 = some patOb) (hc : s.heap.get? 176 = some codeOb)
    (h : Q ⟨.ref 177, .str x t, codeA, x.cps, 0, 0, 0, min (2 ^ 63 - 1) x.cps.size⟩ s) : wpAny (model prog w) A (reTarget "re.Pattern.search" "search" ⟨[.ref 177, .str x t], []⟩) Q E s := by
  unfold reTarget
  dsimp only
  rw [reNamed_1]
  refine wpAny_bind (wpAny_pure ?_)
  dsimp only
  refine wpAny_bind (wpAny_pure ?_)
  refine wpAny_bind (wpAny_pure ?_)
  refine wpAny_bind (wpAny_fieldsOf hp rfl ?_)
  refine wpAny_bind (m := reTextOf (.str x t)) (wpAny_pure ?_)
  dsimp only
  refine wpAny_ite_split (fun hab => absurd hab (by decide)) (fun _ => ?_)
  refine wpAny_ite_split (fun hab => absurd hab (by decide)) (fun _ => ?_)
  unfold reNoCollectionInside
  refine wpAny_bind ?_
  refine wpAny_ite_split (fun hab => absurd hab (by decide)) (fun _ => wpAny_pure ?_)
  unfold reRawItems
  show wpAny _ _ ((seqItems? (.ref 176) >>= _) >>= _) _ _ _
  refine wpAny_bind (wpAny_bind (wpAny_seqItems hc rfl (wpAny_pure ?_)))
  refine wpAny_pure ?_
  have e1 : Array.map (fun (x : Int) => x.toNat) (Array.map reRawOf ((some (codeA.map fun (k : Nat) => Value.int k 0)).getD #[])) = codeA := codes_eq
  rw [e1]
  have e2 : min (Int.toNat 0) x.cps.size = 0 := Nat.zero_min _
  rw [e2]
  exact h
theorem chk_search (x : PySem.Str) (t : Tok) : (match Manifest.signature? "re.Pattern.search" with | some sig => Bind.checkArgs "re.Pattern.search" { sig with full := s!"{Bind.lastOf "re.Pattern"}.{Bind.lastOf "re.Pattern.search"}" } ⟨[.ref 177, .str x t], []⟩ | none => pure ()) = pure () := by kernel_rfl
theorem kind_search : builtinKind "re.Pattern.search" = some .method := by decide +kernel
theorem var_search : Manifest.varargsMethods.contains "re.Pattern.search" = false := by decide +kernel
theorem sub_pat_mod : isSubtype (.type "re.Pattern") (.type "module") = pure false := by rw [isSubtype_type]; kernel_rfl
theorem call_search {x : PySem.Str} {t : Tok} {Q : Value → Shared → Prop} (hb : s.heap.get? 873 = some boundOb) (hp : s.heap.get? 177 = some patOb) (hc : s.heap.get? 176 = some codeOb)
    (hx : 0 < x.cps.size) (hz : x.cps.size ≤ 1000000) (hall : ∀ c ∈ x.cps, c ∈ alph)
    (h1 : safeT x.cps = true → Q .none s) (h2 : safeT x.cps = false → ∀ h' a, (∀ b o, s.heap.get? b = some o → h'.get? b = some o) → Q (.ref a) { s with heap := h' }) : wpAny (model prog w) A (call (.ref 873) [.str x t]) Q E s := by
  refine wpAny_call (codeAny_of_tree ?_)
  show wpAny _ _ (callAny (.ref 873) ⟨[.str x t], []⟩) _ _ _
  unfold callAny
  refine wpAny_bind (wpAny_load hb ?_)
  dsimp only [boundOb]
  rw [if_pos (by decide)]
  show wpAny _ _ (if (Value.type "builtin_function_or_method" != Value.type "method") = true then (do checkBoundCall "re.Pattern.search" ⟨[.ref 177, .str x t], []⟩; again (.builtin "re.Pattern.search" ⟨[.ref 177, .str x t], []⟩)) else _) _ _ _
  rw [if_pos (by decide)]
  have rest : ∀ (A' : Around) (E' : Value → Shared → Prop), wpAny (model prog w) A' (again (.builtin "re.Pattern.search" ⟨[.ref 177, .str x t], []⟩))
      (fun fin s' => match fin with | .done f => (match (Except.ok f : Result) with | .ok (.ret v) => Q v s' | .ok _ => False | .error e => E e s') | .again c' => c'.quiet = true ∧ codeAny (model prog w) A c' (fun r s' => match r with | .ok (.ret v) => Q v s' | .ok _ => False | .error e => E e s') s') E' s := by
    intro A' E'
    refine wpAny_pure ⟨plainId_quiet plain_search _, codeAny_builtin entry_search ?_⟩
    rw [Around.under_plainId plain_search _]
    unfold Builtin.«re.Pattern.search»
    have hlim : min (2 ^ 63 - 1) x.cps.size = x.cps.size := by lia
    refine wpAny_bind (reTarget_1 hp hc ?_)
    dsimp only
    rw [hlim]
    unfold reAnswer
    obtain ⟨r1, r2⟩ := run_ok x.cps hx hall
    cases hs : safeT x.cps with
    | true => exact wpAny_bind (reRun (.inl ⟨r1 hs, wpAny_pure (h1 hs)⟩))
    | false =>
      obtain ⟨q1, q2, q3⟩ := r2 hs
      refine wpAny_bind (reRun (.inr ⟨q1, ?_⟩))
      dsimp only
      unfold reNewMatch
      dsimp only
      refine wpAny_bind ?_
      refine wpAny_ite_split (fun hab => absurd (show false = true from hab) Bool.false_ne_true) (fun _ => ?_)
      show wpAny _ _ (newTuple _ >>= _) _ _ _
      refine wpAny_bind (wpAny_newTuple ?_ (by show 2 ≤ sizeLine; decide))
      unfold newFields
      refine wpAny_newObj_type ?_
      refine wpAny_pure (h2 hs _ _ fun b o e => Heap.get?_push_of_some _ (Heap.get?_push_of_some _ e))
  refine wpAny_bind ?_
  have hT : s.TypeIs (.ref 177) "re.Pattern" := ⟨_, hp, rfl⟩
  have hck := chk_search x t
  unfold checkBoundCall
  cases hsig : Manifest.signature? "re.Pattern.search" with
  | none => exact wpAny_pure (rest _ _)
  | some sig =>
    rw [hsig] at hck
    rw [kind_search]
    dsimp only
    rw [if_neg (by decide)]
    refine wpAny_bind (wpAny_isInstance (T := "re.Pattern") (b := false) hT sub_pat_mod ?_)
    rw [var_search, if_neg (by decide)]
    unfold isType
    refine wpAny_bind (wpAny_bind (wpAny_loadPart hp (wpAny_pure ?_)))
    refine wpAny_ite_split (fun hab => absurd (show false = true from hab) Bool.false_ne_true) (fun _ => ?_)
    refine wpAny_bind (wpAny_typeOf hT ?_)
    show wpAny _ _ (Bind.checkArgs "re.Pattern.search" { sig with full := s!"{Bind.lastOf "re.Pattern"}.{Bind.lastOf "re.Pattern.search"}" } ⟨[.ref 177, .str x t], []⟩) _ _ _
    dsimp only at hck
    rw [hck]
    exact wpAny_pure (rest _ _)
end
end

section
open PySem PySem.W PyProof.Rows PySem.Calls PyProof.V
theorem callWith_bound {M : Model} {A : Around} {E : Value → Shared → Prop} {s : Shared} {pos : Pos} {a : Addr} {args : List (Bool × Sem Value)} {Q : Value → Shared → Prop} (hplain : args.any (·.1) = false)
    (h : wpAny M A (evalArgs (.ref a) true args []) (fun x s₁ => s₁.heap.get? a = some boundOb ∧ wpAny M A (call (.ref a) x.pos x.kw) Q E s₁) E s) :
    wpAny M A (callWith pos (.ref a) [] args []) Q E s := by
  unfold callWith
  refine wpAny_bind (wpAny_holding (wpAny_mono h (fun x s₁ h₁ => wpAny_bind (wpAny_standAt ?_)) fun _ _ x => x))
  rw [hplain]
  unfold keeperOf
  refine wpAny_bind (wpAny_bind (wpAny_load h₁.1 ?_))
  dsimp only [boundOb]
  refine wpAny_ite_split (fun _ => ?_) (fun hab => absurd (show (Value.type "builtin_function_or_method" != Value.type "method") = true by decide) hab)
  refine wpAny_pure ?_
  exact wpAny_bind (wpAny_mono h₁.2 (fun r s₂ hr => wpAny_bind (wpAny_holding (wpAny_point (wpAny_pure hr)))) fun _ _ x => x)
structure SearchAt (D : Wd) : Prop where
  b : D.B.get? 873 = some boundOb
  p : D.B.get? 177 = some patOb
  c : D.B.get? 176 = some codeOb
section
variable {D : Wd} {n : Nat} {env cenv : Env} {L C : Addr} {ns : Kinds} {cl : List (PySem.Str × Addr)} {W W' W₁ W₂ W₃ : Wld} {F G : Led} {s : Shared}
theorem TestR.safe {id : PySem.Str} {args : List Expr} {x : PySem.Str} {p pos pos' cp : Pos} {k : Nat} (S : SearchAt D) (h1 : EvalR D n env W (.Name id p) (.con (.ref 873)) W) (h2 : EvalsR D n env W args [.str x] W) (hx : 0 < x.cps.size) (hz : x.cps.size ≤ 1000000) (hall : ∀ c ∈ x.cps, c ∈ alph)
    (hm : behindInMarks .Is (.Constant .none k cp) = false := by with_unfolding_all rfl) : TestR D n env W (.Compare (.Call (.Name id p) args [] pos) [.Is] [.Constant .none k cp] pos') (safeT x.cps) W := by
  intro A F G s Q E rm c kk
  refine wpAny_isTrue_Compare1 (wpAny_Call_NameR (h1 A F G s _ E rm c fun G₁ fv s₁ l₁ c₁ rf => ?_)) hm
  obtain rfl := Rep.con_v rf
  refine callWith_bound (h2.noStar (pos := pos)).1 (evalArgs_of (h2.noStar (pos := pos)).1 (h2.wp A F G₁ s₁ _ E rm c₁ fun G₂ vs s₂ l₂ c₂ rs => ?_))
  obtain ⟨v1, rfl, r1⟩ := RepAll.one rs; obtain ⟨t1, rfl⟩ := r1.str_v
  refine ⟨c₂.keeps _ _ S.b, call_search (c₂.keeps _ _ S.b) (c₂.keeps _ _ S.p) (c₂.keeps _ _ S.c) hx hz hall (fun hs => ?_) (fun hs h' a hk => ?_)⟩
  · rw [hs] at kk
    refine wpAny_Constant_none ?_
    with_reducible refine is_none ?_
    exact wpAny_truthy_bool (kk G₂ s₂ (l₁.trans l₂) c₂)
  · rw [hs] at kk
    refine wpAny_Constant_none ?_
    with_reducible refine is_none ?_
    exact wpAny_truthy_bool (kk G₂ _ (l₁.trans l₂) (c₂.grow (t := s₂.toks) hk))
theorem EvalR.quoteRep' {o : Expr} {name : PySem.Str} {id : String} {a x y z r : PySem.Str} {k1 k2 k3 : Nat} {p1 p2 p3 apos pos pos' : Pos} (pa : PlainAttrs "str") (slot : Slot "str" name id) (hty : typeOf (.builtin id) = pure (.type "method_descriptor"))
    (hcall : ∀ (A : Around) (s : Shared) (t u v : Tok) (Q : Value → Shared → Prop) (E : Value → Shared → Prop), u ≠ 0 → v ≠ 0 → u ≠ v → (∀ t' k, Q (.str r t') { s with toks := k }) → wpAny (model D.prog D.w) A (PySem.call (Value.builtin id) [Value.str x t, Value.str y u, Value.str z v]) Q E s)
    (ho : EvalR D n env W o (.str x) W) (hbase : ∀ t, attributeBase o name env t = t) (ha : a.length + r.length ≤ 16777216)
    (hst : starEach [.Constant (.str y) k2 p2, .Constant (.str z) k3 p3] env = [(false, eval (.Constant (.str y) k2 p2) env), (false, eval (.Constant (.str z) k3 p3) env)]) (hst2 : starEach [.Constant (.str z) k3 p3] env = [(false, eval (.Constant (.str z) k3 p3) env)]) (hline : (apos.endLine == pos.line) = true) :
    EvalR D n env W (.BinOp (.Constant (.str a) k1 p1) .Add (.Call (.Attribute o name apos) [.Constant (.str y) k2 p2, .Constant (.str z) k3 p3] [] pos) pos') (.str (a ++ r)) W := by
  intro A F G s Q E rm c k
  refine wpAny_BinOp (wpAny_Constant_str ?_)
  have c1 : Core D F G W { s with toks := s.toks + 1 } := c.toks _
  have hs : EvalsR D n env W [.Constant (.str y) k2 p2, .Constant (.str z) k3 p3] [.str y, .str z] W := .cons (by rw [hst, hst2]) EvalR.strc (.cons (by rw [hst2]; rfl) EvalR.strc .nil)
  rw [arm_eval_Call, hbase]
  refine wpAny_bind (wpAny_with_toks (n := 1) (by show 1 ≤ s.toks + 1; lia) (ho A F G _ _ _ rm c1 fun G₁ ov s₁ l₁ c₁ rv => fun htk => wpAny_bind (wpAny_standAt ?_)))
  obtain ⟨tv, rfl⟩ := rv.str_v
  refine methodCall_at (first := [.str x _]) (f := .builtin id) (hs.noStar (pos := pos)).2 (show 2 < 30 by decide) hline (fun pl Q hq => getMethod_builtin (T := "str") rfl pa slot hty (fun a e => by cases e) hq) ?_
  refine callWith_flat (fun a e => by cases e) (hs.noStar (pos := pos)).1 (evalArgs_of (hs.noStar (pos := pos)).1 ?_)
  refine wpAny_items_cons (wpAny_Constant_str (wpAny_items_cons (wpAny_Constant_str (wpAny_items_nil ?_)) (by rw [hst2]; rfl))) (by rw [hst, hst2])
  refine hcall _ _ _ _ _ _ _ ?_ ?_ ?_ fun t' k' => ?_
  · show s₁.toks ≠ 0; lia
  · show s₁.toks + 1 ≠ 0; lia
  · show s₁.toks ≠ s₁.toks + 1; lia
  · have c₂ : Core D F G₁ W { s₁ with toks := k' } := c₁.toks k'
    exact OpR.adds ha A F G₁ W _ _ _ _ E rm c₂ (.str a _) (.str _ _) fun G' v s' l' c' r' => k G' v s' (l₁.trans l') c' r'
theorem EvalR.quoteRep {o : Expr} {a x y z : PySem.Str} {k1 k2 k3 : Nat} {p1 p2 p3 apos pos pos' : Pos} (ho : EvalR D n env W o (.str x) W) (hyz : (y == z) = false) (hb : x.length + (x.length + 1) * z.length ≤ 16777216) (ha : a.length + (Txt.replace x y z).length ≤ 16777216)
    (hst : starEach [.Constant (.str y) k2 p2, .Constant (.str z) k3 p3] env = [(false, eval (.Constant (.str y) k2 p2) env), (false, eval (.Constant (.str z) k3 p3) env)]) (hst2 : starEach [.Constant (.str z) k3 p3] env = [(false, eval (.Constant (.str z) k3 p3) env)])
    (hbase : ∀ t, attributeBase o "replace" env t = t := by intro _; rfl) (hline : (apos.endLine == pos.line) = true := by rfl) :
    EvalR D n env W (.BinOp (.Constant (.str a) k1 p1) .Add (.Call (.Attribute o "replace" apos) [.Constant (.str y) k2 p2, .Constant (.str z) k3 p3] [] pos) pos') (.str (a ++ Txt.replace x y z)) W :=
  EvalR.quoteRep' PySem.F.plainAttrs_str PySem.F.slot_str_replace PySem.F.type_str_replace (fun A s t u v Q E h1 h2 h3 hq => SC.replace h1 h2 h3 hyz hb hq) ho hbase ha hst hst2 hline
end
end

section
open PySem PySem.W PyProof.Rows PySem.Calls PyProof.V
set_option maxHeartbeats 1000000
section
variable {D : Wd} {n : Nat} {W W' W'' : Wld}
theorem searchAt (f : D.Fit) : SearchAt D where
  b := f.kin _ _ (by with_unfolding_all rfl)
  p := f.kin _ _ (by with_unfolding_all rfl)
  c := f.kin _ _ (by with_unfolding_all rfl)
noncomputable def quoteP (x : PySem.Str) : PySem.Str := if safeT x.cps = true then x else "'" ++ Txt.replace x "'" "'\"'\"'" ++ "'"
theorem quote_spec (f : D.Fit) (x : PySem.Str) (hx : 0 < x.cps.size) (hz : x.length ≤ 1000) (hall : ∀ c ∈ x.cps, c ∈ alph) (hr : (Txt.replace x "'" "'\"'\"'").length ≤ 100000) : CallR D (n + 1) W (.ref 880) [.str x] [] (.str (quoteP x)) W := by
  have hz' : x.length ≤ 16777216 := by lia
  have hne : (!(x.length != 0)) = false := by
    have : x.length ≠ 0 := by show x.cps.size ≠ 0; lia
    simp [this]
  refine' CallR.kf f 880 ["s"] ?e ?hb ?hc ?hok rfl (bind1 ?hbind) ?h
  case e => with_unfolding_all rfl
  case hb => rfl
  case hc => kernel_rfl
  case hok => kernel_rfl
  case hbind => intro v; with_unfolding_all rfl
  case h =>
    intro L env ok
    dsimp only [List.zip_cons_cons, List.zip_nil_left] at ok ⊢
    refine' ExecK.run ?hh
    case hh =>
      refine' ExecK.ifF (TestR.is ?t1 hne) ?k1
      case t1 => walk_at "m.test"
      case k1 =>
        walk_at "m.x"
        refine' ExecK.if (TestR.safe (searchAt f) ?t2 ?t3 hx (by show x.length ≤ 1000000; lia) hall ?t4) ?k2 ?k3
        case t2 => walk_at "m.glob"
        case t3 => walk_at "m.evs"
        case t4 => with_unfolding_all rfl
        case k2 =>
          intro h
          rw [show quoteP x = x from if_pos h]
          walk_at "m.x"
        case k3 =>
          intro h
          have h1 : ("'" : PySem.Str).length = 1 := by decide
          have h5 : ("'\"'\"'" : PySem.Str).length = 5 := by decide
          have hlen : ("'" ++ Txt.replace x "'" "'\"'\"'" : PySem.Str).length = 1 + (Txt.replace x "'" "'\"'\"'").length := PySem.Str.length_append _ _
          rw [show quoteP x = "'" ++ Txt.replace x "'" "'\"'\"'" ++ "'" from if_neg (by rw [h]; exact Bool.false_ne_true)]
          walk_at "m.x"
          refine' ExecK.retF (EvalR.bin (EvalR.quoteRep ?q1 ?q2 ?q3 ?q4 ?q5 ?q6 ?q7 ?q8) ?q9 (OpR.adds ?q10))
          case q1 => walk_at "m.ev"
          case q2 => kernel_rfl
          case q3 => rw [h5]; lia
          case q4 => rw [h1]; lia
          case q5 => with_unfolding_all rfl
          case q6 => with_unfolding_all rfl
          case q7 => intro _; rfl
          case q8 => rfl
          case q9 => walk_at "m.ev"
          case q10 => rw [hlen, h1]; lia
theorem quote_c (f : D.Fit) {x : PySem.Str} (hx : 0 < x.cps.size) (hz : x.length ≤ 1000) (hall : ∀ c ∈ x.cps, c ∈ alph) (hr : (Txt.replace x "'" "'\"'\"'").length ≤ 100000) (hn : 1 ≤ n) : CallR D n W (.ref 880) [.str x] [] (.str (quoteP x)) W := (quote_spec (n := 0) f x hx hz hall hr).mono hn
end
end

section
open PySem PySem.W PyProof.Rows PySem.Calls PyProof.V
theorem lookIn_ns {h : Heap} {d : Addr} {m : PySem.Str → Option Value} {o : Obj} (hn : h.Ns1 d m) (ho : h.get? d = some o) (name : PySem.Str) : lookIn name o = some (m name) := by
  obtain ⟨o', es, ep, e1, e2, hk, hu, hf⟩ := hn
  rw [ho] at e1
  cases e1
  unfold lookIn
  rw [e2]
  dsimp only
  rw [← hf name]
  unfold nsFind findBy
  rw [← Array.find?_toList]
  cases hq : es.toList.find? (fun e => e.key.isStr name) with
  | some e => rfl
  | none =>
    have : es.toList.any (·.refKey) = false := by
      rw [List.any_eq_false]
      intro e he
      obtain ⟨n, t, k⟩ := hk e (Array.mem_toList_iff.mp he)
      simp [DictEntry.refKey, k]
    dsimp only
    rw [this]
    rfl
structure ClsOk (K : Frag) (C : Addr) : Prop where
  cd : (clsIn K C).any (·.hasDict) = true
  ga : findIn K (.ref C) "__getattribute__" = some (some (.builtin "object.__getattribute__"))
  gk : findIn K (.ref C) "__getattr__" = some none
  sa : findIn K (.ref C) "__setattr__" = some (some (.builtin "object.__setattr__"))
  po : plainOver K C = true
theorem findObj_own {K : Frag} {C : Addr} {o : Obj} {name : PySem.Str} {v : Value} (h : ClsOk K C) (hf : findIn K (.ref C) name = some none) (hl : lookIn name o = some (some v)) : findObj K C (some o) name = some (.value v) := by
  obtain ⟨cd, hc, hd⟩ := any_some h.cd
  unfold findObj
  rw [hc, hf]
  show (PySem.W.ownOf cd (some o) name).bind _ = _
  rw [show PySem.W.ownOf cd (some o) name = some (some v) from (if_pos hd).trans hl]
  rfl
section
variable {D : Wd} {n : Nat} {env cenv : Env} {L C x d : Addr} {ns : Kinds} {cl : List (PySem.Str × Addr)} {W W' W₁ W₂ W₃ : Wld} {F G : Led} {s : Shared} {K : Frag} {σ σ' : Sg}
theorem Core.inst (c : Core D F G W s) (h1 : WGet W x (.raw (instObj C d))) (h2 : WGet W d (.attrs σ)) : ∃ o m, InstAt s.heap x (instObj C d) C (some o) ∧ s.heap.get? d = some o ∧ s.heap.Ns1 d m ∧ (∀ y p, σ.lookup y = some p → ∃ v, m y = some v ∧ Rep G v p) ∧ ∀ y, σ.lookup y = none → m y = none := by
  have a : s.heap.get? x = some (instObj C d) := c.wok _ h1.mem
  obtain ⟨m, hn, k, z⟩ := c.wok _ h2.mem
  obtain ⟨o, es, ep, e1, _⟩ := id hn
  exact ⟨o, m, ⟨a, rfl, rfl, e1⟩, e1, hn, k, z⟩
noncomputable def PV.handed : PV → Bool
  | .con (.builtin _) => false
  | .con (.type _) => true
  | _ => true
theorem handed_of {G : Led} {v : Value} {p : PV} (r : Rep G v p) (h : p.handed = true) : handedIn v = true := by
  cases r with
  | con v => cases v <;> first | rfl | cases h
  | _ => rfl
theorem getAttrR {name : PySem.Str} {p : PV} {expr : Bool} (X : K.In D.B) (hC : ClsOk K C) (hf : findIn K (.ref C) name = some none) (h1 : WGet W x (.raw (instObj C d))) (h2 : WGet W d (.attrs σ)) (hs : σ.lookup name = some p) (hp : p.handed = true := by rfl)
    (A : Around) (F G : Led) (s : Shared) (Q : Value → Shared → Prop) (E : Value → Shared → Prop) (c : Core D F G W s) (k : ∀ v s', Core D F G W s' → Rep G v p → Q v s') : wpAny (model D.prog D.w) A (getAttr (.ref x) name expr) Q E s := by
  obtain ⟨o, m, I, ho, hn, hk, _⟩ := c.inst h1 h2
  obtain ⟨v, hv, rv⟩ := hk name p hs
  refine get_value (X.keeps c.keeps) I hC.ga (findObj_own hC hf ?_) (handed_of rv hp) (k v _ (c.toks _) rv)
  rw [lookIn_ns hn ho, hv]
theorem EvalR.attr {o : Expr} {name : PySem.Str} {pos : Pos} {p : PV} (X : K.In D.B) (hC : ClsOk K C) (hf : findIn K (.ref C) name = some Option.none) (ho : EvalR D n env W o (.con (.ref x)) W₁) (h1 : WGet W₁ x (.raw (instObj C d))) (h2 : WGet W₁ d (.attrs σ)) (hs : σ.lookup name = some p) (hp : p.handed = true := by rfl)
    (he : eval (.Attribute o name pos) env = (do
      let ov ← eval o env
      standAt pos.atName
      let r ← holding [ov] (getAttr ov name true)
      letTemporaryGo o ov r
      pure r) := by with_unfolding_all rfl) : EvalR D n env W (.Attribute o name pos) p W₁ := by
  intro A F G s Q E rm c k
  refine Attribute_any_ (ho A F G s _ E rm c fun G₁ v s₁ l₁ c₁ r₁ => ?_) he
  obtain rfl := r₁.con_v
  exact getAttrR X hC hf h1 h2 hs hp A F G₁ s₁ Q E c₁ fun v s₂ c₂ r₂ => k G₁ v s₂ l₁ c₂ r₂
end
end

section
open PySem PySem.W PyProof.Rows PySem.Calls PyProof.V
section
variable {D : Wd} {n : Nat} {env cenv : Env} {L C x d : Addr} {ns : Kinds} {cl : List (PySem.Str × Addr)} {W W' W₁ W₂ W₃ : Wld} {F G : Led} {s : Shared} {K : Frag} {σ σ' : Sg}
noncomputable def CodeR (D : Wd) (n : Nat) (W : Wld) (f : Value) (as : List PV) (kw : List (PySem.Str × PV)) (p : PV) (W' : Wld) : Prop :=
  ∀ (A : Around) (F G : Led) (s : Shared) (vs : List Value) (ks : List (PySem.Str × Value)) (R : Result → Shared → Prop), Room A n → Core D F G W s → RepAll G vs as → ks.map (·.1) = kw.map (·.1) → RepAll G (ks.map (·.2)) (kw.map (·.2)) →
    (∀ G' v s', G.le G' → Core D F G' W' s' → Rep G' v p → R (.ok (.ret v)) s') → codeAny (model D.prog D.w) A (.call f ⟨vs, ks⟩) R s
theorem CodeR.call {f : Value} {as : List PV} {kw : List (PySem.Str × PV)} {p : PV} (h : CodeR D n W f as kw p W') : CallR D n W f as kw p W' :=
  fun A F G s vs ks Q E rm c ra hk rk k => wpAny_call (h A F G s vs ks _ rm c ra hk rk fun G' v s' l c' r => k G' v s' l c' r)
theorem CodeR.tail {f : Value} {as : List PV} {kw : List (PySem.Str × PV)} {p : PV} (h : CodeR D n W f as kw p W') (W₁ : Wld) : CodeR D n (W₁ ++ W) f as kw p (W₁ ++ W') := by
  intro A F G s vs ks R rm c ra hk rk k
  exact h A (foreign F s.heap W₁) G s vs ks R rm c.shut ra hk rk fun G' v s' l c' rv => k G' v s' l (c.open l c') rv
noncomputable def Out.Ends (p : PV) (W' : Wld) : Out → Prop
  | .ret q W₁ => q = p ∧ W'.Sublist W₁
  | .next W₁ => p = .none ∧ W'.Sublist W₁
  | _ => False
theorem CodeR.defn {f : Addr} {fd : FuncData} {body : List Stmt} {as qs : List PV} {kw : List (PySem.Str × PV)} {p : PV} (o : D.Ok) (fa : FnAt D f fd body) (xs : List PySem.Str) (arr : List Value → List Value → List Value) (hnd : xs.Nodup)
    (hbind : ∀ (s : Shared) (vs : List Value) (ks : List (PySem.Str × Value)), (∀ a o, D.B.get? a = some o → s.heap.get? a = some o) → vs.length = as.length → ks.map (·.1) = kw.map (·.1) → BindsTo s fd ⟨vs, ks⟩ (xs.zip (arr vs (ks.map (·.2)))))
    (hrep : ∀ (G : Led) (vs us : List Value), RepAll G vs as → RepAll G us (kw.map (·.2)) → RepAll G (arr vs us) qs)
    (hcell : ∀ x ∈ fd.scope.names, x.2 ≠ .cell) (hloc : ∀ x ∈ xs, fd.scope.names.lookup x = some .local)
    (h : ∀ (L : Addr) (env : Env), EnvOk env L fd.scope.names [] → ∃ o, ExecR D n env ((L, .frame (xs.zip qs)) :: W) body o ∧ o.Ends p W') : CodeR D (n + 1) W (.ref f) as kw p W' := by
  intro A F G s vs ks R rm c ra hk rk k
  obtain ⟨ob, ho, hd⟩ := fa.ob
  have hr := hrep G vs (ks.map (·.2)) ra rk
  refine codeAny_call_def (binds := xs.zip (arr vs (ks.map (·.2)))) rm.d (c.keeps _ _ ho) hd (o.nolimit.keeps c.keeps) (fa.code.keeps c.keeps) fa.body (hbind s vs ks c.keeps ra.length hk) hcell ?_ (fun h₁ hns hkp => ?_) fa.co fa.gen fa.kind
  · intro x hx
    exact hloc _ (List.of_mem_zip (a := x.1) (b := x.2) hx).1
  · have eo : EnvOk (callEnv fd s.heap.objs.size f) s.heap.objs.size fd.scope.names [] := ⟨fa.kind, fun _ => rfl, rfl, fa.glob, fa.blt, fa.clos⟩
    obtain ⟨out, hx, he⟩ := h s.heap.objs.size _ eo
    have c₁ : Core D F G ((s.heap.objs.size, .frame (xs.zip qs)) :: W) { s with heap := h₁, toks := s.toks + (xs.zip (arr vs (ks.map (·.2)))).length } := c.new (Nat.le_refl _) hkp ⟨_, hns, zip_lookup xs _ _ hr hnd⟩
    refine wpAny_mono (hx _ F G _ (fun fl s' => ∃ v G', (fl = .ret v ∨ (fl = .next ∧ v = .none)) ∧ G.le G' ∧ Core D F G' W' s' ∧ Rep G' v p) (fun _ _ => False) rm.deeper c₁ ?_) (fun fl s' hq => ?_) fun _ _ e => e.elim
    · cases out with
      | next W₁ =>
        obtain ⟨rfl, hs⟩ := he
        exact fun G' s' l c' => ⟨.none, G', .inr ⟨rfl, rfl⟩, l, c'.sub hs, .none⟩
      | ret q W₁ =>
        obtain ⟨rfl, hs⟩ := he
        exact fun G' v s' l c' rv => ⟨v, G', .inl rfl, l, c'.sub hs, rv⟩
      | brk W₁ => exact he.elim
      | cont W₁ => exact he.elim
    · obtain ⟨v, G', e, l, c', rv⟩ := hq
      rcases e with rfl | ⟨rfl, rfl⟩
      · exact k G' v s' l c' rv
      · exact k G' .none s' l c' rv
theorem tcallRoom {A : Around} {n : Nat} {a : Addr} {rest : List Value} {kw : List (PySem.Str × Value)} (r : Room A (n + 1)) : Room (A.under (.builtin "type.__call__" ⟨.ref a :: rest, kw⟩)) n := by
  have hw : (Code.builtin "type.__call__" ⟨.ref a :: rest, kw⟩).weight = 1 := rfl
  have hu : (Code.builtin "type.__call__" ⟨.ref a :: rest, kw⟩).cUnits = 1 := rfl
  refine ⟨r.handled, ?_, ?_⟩
  · show A.depth + (Code.builtin "type.__call__" ⟨.ref a :: rest, kw⟩).weight + n + 200 < _
    have := r.depth; rw [hw]; lia
  · show A.units + (Code.builtin "type.__call__" ⟨.ref a :: rest, kw⟩).cUnits + 16 * n < _
    have := r.units; rw [hu]; lia
end
end

section
open PySem PySem.W PyProof.Rows PySem.Calls PyProof.V
open Builtin Builtin.ObjectAttr
theorem findObj_prop {K : Frag} {C p : Addr} {od : Option Obj} {name : PySem.Str} {g : Value} (h : ClsOk K C) (hf : findIn K (.ref C) name = some (some (.ref p))) (hg : specialIn K (.ref p) "__get__" = some (some g)) (ht : takesIn K (.ref p) = some true) : findObj K C od name = some (.bind g (.ref p)) := by
  obtain ⟨cd, hc, hd⟩ := any_some h.cd
  unfold findObj
  rw [hc, hf]
  show (specialIn K (.ref p) "__get__").bind _ = _
  rw [hg]
  show (takesIn K (.ref p)).bind _ = _
  rw [ht]
  rfl
section
variable {D : Wd} {n : Nat} {env cenv : Env} {L C x d : Addr} {ns : Kinds} {cl : List (PySem.Str × Addr)} {W W' W₁ W₂ W₃ : Wld} {F G : Led} {s : Shared} {K : Frag} {σ σ' : Sg}
theorem EvalR.methI {o : Expr} {name : PySem.Str} {apos pos : Pos} {args : List Expr} {fn : Addr} {ps : List PV} {r : PV} (X : K.In D.B) (hC : ClsOk K C) (hf : findIn K (.ref C) name = some (some (.ref fn))) (ht : typeIn K (.ref fn) = some (.type "function")) (hbase : ∀ t, attributeBase o name env t = t)
    (ho : EvalR D n env W o (.con (.ref x)) W₁) (h1 : WGet W₁ x (.raw (instObj C d))) (h2 : WGet W₁ d (.attrs σ)) (hs : σ.lookup name = Option.none) (hk : Keeper D (.ref fn)) (ha : EvalsR D n env W₁ args ps W₂) (hc : CallR D n W₂ (.ref fn) (.con (.ref x) :: ps) [] r W')
    (hn : args.length < 30 := by decide) (hline : (apos.endLine == pos.line) = true := by rfl) : EvalR D n env W (.Call (.Attribute o name apos) args [] pos) r W' := by
  intro A F G s Q E rm c k
  rw [arm_eval_Call, hbase]
  refine wpAny_bind (ho A F G s _ E rm c fun G₁ ov s₁ l₁ c₁ rv => wpAny_bind (wpAny_standAt ?_))
  obtain rfl := rv.con_v
  refine methodCall_at (first := [.ref x]) (f := .ref fn) (ha.noStar (pos := pos)).2 hn hline (fun pl Q hq => ?_) ?_
  · obtain ⟨o', m, I, ho', hn', _, hz⟩ := c₁.inst h1 h2
    refine method_fn (X.keeps c₁.keeps) I hC.ga hC.gk hf ht ?_ hq
    unfold shadowIn
    dsimp only
    rw [lookIn_ns hn' ho', hz name hs]
    rfl
  · exact callWith_R (first := [.ref x]) (fps := [.con (.ref x)]) hk ha hc A F G₁ s₁ Q E rm c₁ (.cons (.con _) .nil) fun G₂ v s₂ l₂ c₂ rv => k G₂ v s₂ (l₁.trans l₂) c₂ rv
theorem EvalR.prop {o : Expr} {name : PySem.Str} {pos : Pos} {pr fget : Addr} {rest : List Value} {p : PV} (X : K.In D.B) (hC : ClsOk K C) (hf : findIn K (.ref C) name = some (some (.ref pr))) (hg : specialIn K (.ref pr) "__get__" = some (some (.builtin "property.__get__"))) (ht : takesIn K (.ref pr) = some true) (hr : recIn K pr "property" = some (.ref fget :: rest))
    (ho : EvalR D n env W o (.con (.ref x)) W₁) (h1 : WGet W₁ x (.raw (instObj C d))) (h2 : WGet W₁ d (.attrs σ)) (hc : CodeR D m W₁ (.ref fget) [.con (.ref x)] [] p W') (hm : m < n) (hp : p.handed = true := by rfl)
    (he : eval (.Attribute o name pos) env = (do
      let ov ← eval o env
      standAt pos.atName
      let r ← holding [ov] (getAttr ov name true)
      letTemporaryGo o ov r
      pure r) := by with_unfolding_all rfl) : EvalR D n env W (.Attribute o name pos) p W' := by
  intro A F G s Q E rm c k
  refine Attribute_any_ (ho A F G s _ E rm c fun G₁ v s₁ l₁ c₁ r₁ => ?_) he
  obtain rfl := r₁.con_v
  obtain ⟨o', mm, I, ho', hn', _, hz⟩ := c₁.inst h1 h2
  refine get_bind (X.keeps c₁.keeps) I hC.ga (findObj_prop hC hf hg ht) hC.gk ?_
  refine wpAny_call (prop_get (X.keeps c₁.keeps) hr ?_)
  have rm' : Room A.in1 m := ⟨rm.handled, by have := rm.depth; show A.depth + m + 200 < _; lia, by have := rm.units; show A.units + 1 + 16 * m < _; lia⟩
  refine hc A.in1 F G₁ _ [.ref x] [] _ rm' (c₁.toks _) (.cons (.con _) .nil) rfl .nil fun G₂ v s₂ l₂ c₂ r₂ => ?_
  show wpAny _ _ (handedOut v) _ _ _
  rw [handedOut_of (handed_of r₂ hp)]
  exact wpAny_pure (k G₂ v s₂ (l₁.trans l₂) c₂ r₂)
theorem setAttrR {name : PySem.Str} {p : PV} (X : K.In D.B) (hC : ClsOk K C) (ht : takerIn K C name = some Option.none) (h1 : WGet W x (.raw (instObj C d))) (hw : WPut W d (.attrs σ) (.attrs σ') W') (hp : Put σ name p σ') (hl : σ.length ≤ 1000)
    (A : Around) (F G : Led) (s : Shared) (v : Value) (Q : Unit → Shared → Prop) (E : Value → Shared → Prop) (c : Core D F G W s) (rv : Rep G v p) (k : ∀ s', Core D F G W' s' → Q () s') : wpAny (model D.prog D.w) A (setAttr (.ref x) name v) Q E s := by
  obtain ⟨o, m, I, ho, hn, hk, hz⟩ := c.inst h1 hw.get
  have XX := X.keeps c.keeps
  refine set_plain XX I hC.sa ?_
  refine osa_open (s := { s with toks := s.toks + 1 }) XX I hC.po ht fun b => ?_
  obtain ⟨cd, hc, hd'⟩ := any_some hC.cd
  have hx := I.at_
  refine wpAny_bind (wpAny_pure (wpAny_bind (wpAny_bind (wpAny_loadPart hx (wpAny_bind ((looks_clsIn XX hc) _ _ _ _ (fun _ _ e => e) ?_))))))
  rw [hd']
  refine wpAny_pure (a := some d) ?_
  show wpAny _ _ (Builtin.ObjectAttr.storeInDict d (.str name s.toks) name v) _ _ _
  unfold Builtin.ObjectAttr.storeInDict Builtin.ObjectAttr.newKeyGuard
  refine wpAny_bind (wpAny_pure (wpAny_bind (wpAny_nsSet1 hn fun h' hn' hs => ?_)))
  have hwi : Within m (σ.map (·.1)) := by
    intro y hy
    apply Classical.byContradiction
    intro hny
    apply hy
    apply hz
    rw [List.lookup_eq_none_iff]
    intro q hq
    simp only [bne_iff_ne, ne_eq, beq_eq_false_iff_ne]
    intro e
    exact hny (e ▸ List.mem_map_of_mem hq)
  obtain ⟨oD, esD, epD, hoD, hdD, hcD⟩ := hn'.count (Within.cons name v hwi)
  refine wpAny_bind (wpAny_lookBehind hoD (by rw [hdD]; exact pastItsLine_dict (Nat.le_trans hcD (by rw [List.length_cons, List.length_map, sizeLine_eq]; lia))) ?_)
  refine wpAny_pure ?_
  refine k _ (c.putW (t := s.toks + 1 + 1) hw hs ⟨_, hn', fun y q hq => ?_, fun y hy => ?_⟩)
  · rw [hp y] at hq
    by_cases e : y = name
    · subst e
      simp only [if_true] at hq ⊢
      cases hq
      exact ⟨v, rfl, rv⟩
    · simp only [e, if_false] at hq ⊢
      exact hk y q hq
  · rw [hp y] at hy
    by_cases e : y = name
    · subst e; simp only [if_true] at hy; cases hy
    · simp only [e, if_false] at hy ⊢
      exact hz y hy
end
end

section
open PySem PySem.W PyProof.Rows PySem.Calls PyProof.V
section
variable {D : Wd} {n : Nat} {env cenv : Env} {L C x d : Addr} {ns : Kinds} {cl : List (PySem.Str × Addr)} {W W' W₁ W₂ W₃ W₄ : Wld} {F G : Led} {s : Shared} {K : Frag} {σ σ' : Sg}
theorem ExecS.setA {o e : Expr} {name : PySem.Str} {tpos pos : Pos} {p : PV} (X : K.In D.B) (hC : ClsOk K C) (ht : takerIn K C name = some Option.none) (he : EvalR D n env W e p W₁) (ho : EvalR D n env W₁ o (.con (.ref x)) W₂) (h1 : WGet W₂ x (.raw (instObj C d))) (hw : WPut W₂ d (.attrs σ) (.attrs σ') W₃) (hp : Put σ name p σ') (hl : σ.length ≤ 1000)
    (hs : swapsWith e (some (.Attribute o name tpos)) pos.line env = pure false := by rfl) : ExecS D n env W (.Assign [.Attribute o name tpos] e pos) (.next W₃) := by
  intro A F G s Q E rm c k
  exact plainObj_wpAny_Assign_Attribute (he A F G s _ E rm c fun G₁ v s₁ l₁ c₁ r₁ => ho A F G₁ s₁ _ E rm c₁ fun G₂ ov s₂ l₂ c₂ r₂ => by
    obtain rfl := r₂.con_v
    exact setAttrR X hC ht h1 hw hp hl A F G₂ s₂ v _ E c₂ (r₁.mono l₂) fun s₃ c₃ => k G₂ s₃ (l₁.trans l₂) c₃) hs
theorem ExecS.augA {o e : Expr} {name : PySem.Str} {op : Operator} {tpos pos : Pos} {p q r : PV} (X : K.In D.B) (hC : ClsOk K C) (hf : findIn K (.ref C) name = some Option.none) (ht : takerIn K C name = some Option.none) (ho : EvalR D n env W o (.con (.ref x)) W) (h1 : WGet W x (.raw (instObj C d))) (h2 : WGet W d (.attrs σ)) (hs : σ.lookup name = some p)
    (he : EvalR D n env W e q W) (hop : OpR D n (inplaceOp op) p q r) (hw : WPut W d (.attrs σ) (.attrs σ') W₃) (hp : Put σ name r σ') (hl : σ.length ≤ 1000) (hh : p.handed = true := by rfl) : ExecS D n env W (.AugAssign (.Attribute o name tpos) op e pos) (.next W₃) := by
  intro A F G s Q E rm c k
  refine wpAny_AugAssign_AttributeAny (ho A F G s _ E rm c fun G₁ ov s₁ l₁ c₁ r₁ => ?_)
  obtain rfl := r₁.con_v
  refine getAttrR X hC hf h1 h2 hs hh A F G₁ s₁ _ E c₁ fun v s₂ c₂ r₂ => ?_
  refine he A F G₁ s₂ _ E rm c₂ fun G₃ u s₃ l₃ c₃ r₃ => hop A F G₃ W s₃ v u _ E rm c₃ (r₂.mono l₃) r₃ fun G₄ t s₄ l₄ c₄ r₄ => ?_
  exact setAttrR X hC ht h1 hw hp hl A F G₄ s₄ t _ E c₄ r₄ fun s₅ c₅ => k G₄ s₅ ((l₁.trans l₃).trans l₄) c₅
theorem ExecK.setA {o e : Expr} {name : PySem.Str} {tpos pos : Pos} {p : PV} (X : K.In D.B) (hC : ClsOk K C) (ht : takerIn K C name = some Option.none) (he : EvalR D n env W e p W₁) (ho : EvalR D n env W₁ o (.con (.ref x)) W₂) (h1 : WGet W₂ x (.raw (instObj C d))) (hw : WPut W₂ d (.attrs σ) (.attrs σ') W₃) (hp : Put σ name p σ') (hl : σ.length ≤ 1000)
    (hs : swapsWith e (some (.Attribute o name tpos)) pos.line env = pure false) {b : List Stmt} {bs : List (List Stmt)} {r : Out} (hk : ExecK D n env W₃ (b :: bs) r) : ExecK D n env W (((.Assign [.Attribute o name tpos] e pos) :: b) :: bs) r := ExecK.st (ExecS.setA X hC ht he ho h1 hw hp hl hs) hk
theorem ExecK.augA {o e : Expr} {name : PySem.Str} {op : Operator} {tpos pos : Pos} {p q r : PV} (X : K.In D.B) (hC : ClsOk K C) (hf : findIn K (.ref C) name = some Option.none) (ht : takerIn K C name = some Option.none) (ho : EvalR D n env W o (.con (.ref x)) W) (h1 : WGet W x (.raw (instObj C d))) (h2 : WGet W d (.attrs σ)) (hs : σ.lookup name = some p)
    (he : EvalR D n env W e q W) (hop : OpR D n (inplaceOp op) p q r) (hw : WPut W d (.attrs σ) (.attrs σ') W₃) (hp : Put σ name r σ') (hl : σ.length ≤ 1000) (hh : p.handed = true) {b : List Stmt} {bs : List (List Stmt)} {z : Out} (hk : ExecK D n env W₃ (b :: bs) z) : ExecK D n env W (((.AugAssign (.Attribute o name tpos) op e pos) :: b) :: bs) z := ExecK.st (ExecS.augA X hC hf ht ho h1 h2 hs he hop hw hp hl hh) hk
inductive KwsR (D : Wd) (n : Nat) (env : Env) : Wld → List Keyword → List (PySem.Str × PV) → Wld → Prop
  | nil {W : Wld} : KwsR D n env W [] [] W
  | cons {W W₁ W₂ : Wld} {k : PySem.Str} {e : Expr} {kp : Pos} {r : List Keyword} {p : PV} {ps : List (PySem.Str × PV)} : EvalR D n env W e p W₁ → KwsR D n env W₁ r ps W₂ → KwsR D n env W (⟨some k, e, kp⟩ :: r) ((k, p) :: ps) W₂
theorem KwsR.facts {ks : List Keyword} {ps : List (PySem.Str × PV)} (h : KwsR D n env W ks ps W') (pos : Pos) : (backToKw pos (keywordEach ks env)).all (·.1.isSome) = true ∧ (backToKw pos (keywordEach ks env)).any (·.1.isNone) = false ∧ (backToKw pos (keywordEach ks env)).filterMap (·.1) = ps.map (·.1) := by
  induction h with
  | nil => exact ⟨rfl, rfl, rfl⟩
  | @cons _ _ _ k e kp r p ps _ _ ih =>
    exact ⟨ih.1, ih.2.1, congrArg (List.cons k) ih.2.2⟩
theorem KwsR.wp {ks : List Keyword} {ps : List (PySem.Str × PV)} {pos : Pos} (h : KwsR D n env W ks ps W') : ∀ (A : Around) (F G : Led) (s : Shared) (Q : List Value → Shared → Prop) (E : Value → Shared → Prop), Room A n → Core D F G W s → (∀ G' vs s', G.le G' → Core D F G' W' s' → RepAll G' vs (ps.map (·.2)) → Q vs s') →
    wpAny (model D.prog D.w) A (evalAll ((backToKw pos (keywordEach ks env)).map (·.2))) Q E s := by
  induction h with
  | nil => exact fun A F G s Q E rm c k => wpAny_evalAll_nil (k G [] s Led.le.rfl c .nil)
  | cons he _ ih =>
    intro A F G s Q E rm c k
    refine wpAny_evalAll_cons (wpAny_bind (he A F G s _ E rm c fun G₁ v s₁ l₁ c₁ r₁ => wpAny_bind (wpAny_standAt (wpAny_pure ?_))))
    exact ih A F G₁ s₁ _ E rm c₁ fun G₂ vs s₂ l₂ c₂ r₂ => k G₂ (v :: vs) s₂ (l₁.trans l₂) c₂ (.cons (r₁.mono l₂) r₂)
theorem callWith_class {M : Model} {A : Around} {E : Value → Shared → Prop} {s : Shared} {pos : Pos} {args : List (Bool × Sem Value)} {keywords : List (Option PySem.Str × Sem Value)} {Q : Value → Shared → Prop} (hplain : args.any (·.1) = false) (hkw : keywords.any (·.1.isNone) = false)
    {cd : ClassData} {oc : Value} {od : Option Addr} {sl : Array (Option Value)} (hK : K.lookup C = some ⟨oc, od, .cls cd, sl⟩) (hcall : specialIn K (.ref C) "__call__" = some (some (.builtin "type.__call__")))
    (h : wpAny M A (evalArgs (.ref C) true args keywords) (fun x s₁ => K.In s₁.heap ∧ wpAny M A (call (.ref C) x.pos x.kw) Q E s₁) E s) :
    wpAny M A (callWith pos (.ref C) [] args keywords) Q E s := by
  unfold callWith
  refine wpAny_bind (wpAny_holding (wpAny_mono h (fun x s₁ h₁ => wpAny_bind (wpAny_standAt ?_)) fun _ _ x => x))
  rw [hplain, hkw]
  unfold keeperOf
  refine wpAny_bind (wpAny_bind (wpAny_load (h₁.1 _ _ hK) ?_))
  dsimp only
  refine wpAny_bind ((looks_specialIn h₁.1 hcall) _ _ _ _ (fun _ _ e => e) ?_)
  rw [if_pos (show (some (Value.builtin "type.__call__") == some (Value.builtin "type.__call__")) = true from beq_self_eq_true _)]
  refine wpAny_pure ?_
  exact wpAny_bind (wpAny_mono h₁.2 (fun r s₂ hr => wpAny_bind (wpAny_holding (wpAny_point (wpAny_pure hr)))) fun _ _ x => x)
end
end

section
open PySem PySem.W PyProof.Rows PySem.Calls PyProof.V
theorem mro_deque : mroOf (.type "collections.deque") = pure [.type "collections.deque", .type "object"] := by rw [mroOf_type]; kernel_rfl
theorem lookup_deque_new : typeLookup (.type "collections.deque") "__new__" = pure (some (.builtin "collections.deque.__new__")) := by rw [typeLookup_type, builtinLookup_eq_fast]; kernel_rfl
theorem slot_deque_init : Slot "collections.deque" "__init__" "collections.deque.__init__" :=
  .of (owner := "collections.deque") (n := "__init__") (by rw [typeLookup_type, builtinLookup_eq_fast]; kernel_rfl) (by decide +kernel) (by decide +kernel) (by decide +kernel)
    (by first | exact .inl (by decide +kernel) | exact .inr (by decide +kernel)) (by rw [isSubtype_type]; kernel_rfl)
theorem slot_deque_len : Slot "collections.deque" "__len__" "collections.deque.__len__" :=
  .of (owner := "collections.deque") (n := "__len__") (by rw [typeLookup_type, builtinLookup_eq_fast]; kernel_rfl) (by decide +kernel) (by decide +kernel) (by decide +kernel)
    (by first | exact .inl (by decide +kernel) | exact .inr (by decide +kernel)) (by rw [isSubtype_type]; kernel_rfl)
theorem called_deque : TypeCalled "collections.deque" "collections.deque.__new__" "collections.deque.__init__" :=
  ⟨by decide +kernel, by decide +kernel, ⟨_, _, mro_deque⟩, madeBy_type mro_deque lookup_deque_new (by decide +kernel), by decide +kernel, by rw [isSubtype_type]; kernel_rfl, slot_deque_init⟩
theorem typeCall_deque : checkTypeCall "collections.deque" ⟨[], []⟩ = pure () := by kernel_rfl
theorem newCall_deque : checkBuiltinCall "collections.deque.__new__" ⟨[.type "collections.deque"], []⟩ = pure () := by kernel_rfl
theorem entry_deque_new : entryFor table "collections.deque.__new__" = some Builtin.«collections.deque.__new__» := entryFor_of_tree (by kernel_rfl)
theorem entry_deque_init : entryFor table "collections.deque.__init__" = some Builtin.«collections.deque.__init__» := entryFor_of_tree (by kernel_rfl)
theorem entry_deque_len : entryFor table "collections.deque.__len__" = some Builtin.«collections.deque.__len__» := entryFor_of_tree (by kernel_rfl)
theorem args_deque_init (a : Value) : argsOk "collections.deque.__init__" ⟨[a], []⟩ := by unfold argsOk; kernel_rfl
theorem args_deque_len (a : Value) : argsOk "collections.deque.__len__" ⟨[a], []⟩ := by unfold argsOk; kernel_rfl
theorem noBool_deque : typeLookup (.type "collections.deque") "__bool__" = pure none := by rw [typeLookup_type, builtinLookup_eq_fast]; kernel_rfl
noncomputable def dqOb : Obj := { cls := .type "collections.deque", data := .fields #[.none, .int 0 0] }
theorem deque_new : Meets (Builtin.«collections.deque.__new__» ⟨[.type "collections.deque"], []⟩) (fun A R s => R (.ok (.ret (.ref s.heap.objs.size))) { s with heap := s.heap.push dqOb }) := by
  refine Meets.of_wp fun prog w A R s h => ?_
  unfold Builtin.«collections.deque.__new__» Builtin.Deque.newArgs
  dsimp only
  refine wpAny_bind (wpAny_bind (m := isType _) (wpAny_pure ?_))
  rw [if_neg (by decide)]
  refine wpAny_bind (m := isSubtype _ _) (wpAny_of_eq (a := true) (by unfold Builtin.Deque.ty; rw [isSubtype_type]; kernel_rfl) ?_)
  rw [if_neg (by decide)]
  refine wpAny_pure ?_
  unfold Builtin.Deque.new
  rw [if_neg (by decide)]
  refine wpAny_bind (wpAny_bind (wpAny_pure ?_))
  exact wpAny_newObj_type (wpAny_pure ⟨_, rfl, h⟩)
theorem deque_init (a : Addr) : Meets (Builtin.«collections.deque.__init__» ⟨[.ref a], []⟩) (fun A R s => s.heap.get? a = some dqOb ∧ ∀ h', Heap.SameBut a s.heap h' → h'.get? a = some dqOb → R (.ok (.ret .none)) { s with heap := h' }) := by
  refine Meets.of_wp fun prog w A R s h => ?_
  obtain ⟨ha, h⟩ := h
  unfold Builtin.«collections.deque.__init__»
  dsimp only
  refine wpAny_bind (wpAny_pure ?_)
  refine wpAny_bind (wpAny_pure ?_)
  refine wpAny_bind (m := pure Value.none) (wpAny_pure ?_)
  refine wpAny_bind (wpAny_setField_rec (k := 0) ha (by decide) fun h' ha' hs' => ?_)
  have ha2 : h'.get? a = some dqOb := ha'
  unfold Builtin.Deque.clear Builtin.Deque.items
  refine wpAny_bind (wpAny_bind (wpAny_bind (wpAny_fieldsOf ha2 rfl (wpAny_pure ?_))))
  rw [if_neg (by decide)]
  refine wpAny_pure ?_
  exact wpAny_pure ⟨_, rfl, h h' hs' ha2⟩
section
variable {prog : Program} {w : World} {A : Around} {E : Value → Shared → Prop} {s : Shared}
theorem call_deque {Q : Value → Shared → Prop} (h : ∀ h', (∀ b o, s.heap.get? b = some o → h'.get? b = some o) → h'.get? s.heap.objs.size = some dqOb → Q (.ref s.heap.objs.size) { s with heap := h' }) : wpAny (model prog w) A (call (.type "collections.deque") []) Q E s := by
  refine callType_meets (Q₁ := fun obj s₁ => obj = .ref s.heap.objs.size ∧ s₁ = { s with heap := s.heap.push dqOb }) called_deque typeCall_deque newCall_deque entry_deque_new entry_deque_init deque_new ⟨rfl, rfl⟩ fun obj s₁ hq => ?_
  obtain ⟨rfl, rfl⟩ := hq
  have hg : (s.heap.push dqOb).get? s.heap.objs.size = some dqOb := Heap.get?_push_size _ rfl
  refine ⟨⟨_, hg, rfl⟩, args_deque_init _, _, deque_init _, hg, fun h' hs' ha' => ⟨rfl, h h' (fun b o e => hs'.extBut b o (Nat.ne_of_lt (Heap.lt_size e)) (Heap.get?_push_of_some _ e)) ha'⟩⟩
theorem truthy_deque {l : Addr} {o : Obj} {u v : Value} {Q : Bool → Shared → Prop} (ho : s.heap.get? l = some o) (hc : o.cls = .type "collections.deque") (hd : o.data = .fields #[u, v]) (h : ∀ tk, Q false { s with toks := tk }) : wpAny (model prog w) A (truthy (.ref l)) Q E s := by
  have hT : s.TypeIs (.ref l) "collections.deque" := ⟨o, ho, hc⟩
  have body : wpAny (model prog w) A.in1 (Builtin.«len» ⟨[.ref l], []⟩) (fun fin s' => ∃ r, fin = .done (.ret r) ∧ (r = .int 0 (s.toks + 1) ∧ Q false s')) E s := by
    unfold Builtin.«len»
    refine wpAny_bind (m := oneArg "len" _) (wpAny_pure ?_)
    refine wpAny_bind (m := callSpecial? (.ref l) (Str.ofString "__len__")) (wpAny_callSpecial?_slot (name := Str.ofString "__len__") hT slot_deque_len
      (wpAny_call_entry slot_deque_len hT entry_deque_len ?_ (args_deque_len _)))
    unfold Builtin.«collections.deque.__len__»
    refine wpAny_bind (wpAny_pure ?_)
    unfold Builtin.Deque.size
    refine wpAny_bind (wpAny_bind (wpAny_fieldsOf ho hd (wpAny_pure ?_)))
    refine wpAny_bind (wpAny_mkInt (wpAny_pure ⟨_, rfl, ?_⟩))
    refine wpAny_bind (wpAny_holding (wpAny_pure ?_))
    refine wpAny_bind (wpAny_letGo ?_)
    show wpAny _ _ (if (0 : Int) < 0 then _ else _) _ _ _
    rw [if_neg (by decide)]
    show wpAny _ _ (if (0 : Int) ≥ 2 ^ 63 then _ else _) _ _ _
    rw [if_neg (by decide)]
    exact wpAny_bind (wpAny_mkInt (wpAny_pure ⟨_, rfl, rfl, h _⟩))
  have key : wpAny (model prog w) A (runValue (.builtin "len" ⟨[.ref l], []⟩)) (fun r s' => r = .int 0 (s.toks + 1) ∧ Q false s') E s := by
    refine wpAny_runValue (codeAny_builtin entry_len ?_)
    rw [Around.under_plainId plain_len _]
    exact wpAny_mono body (fun fin s' h' => by obtain ⟨r, rfl, hq⟩ := h'; exact hq) fun _ _ e => e
  unfold truthy
  first
    | refine wpAny_bind (wpAny_callSpecial?_none (name := Str.ofString "__bool__") hT noBool_deque ?_)
    | refine wpAny_bind (wpAny_pure (wpAny_bind (wpAny_callSpecial?_none (name := Str.ofString "__bool__") hT noBool_deque ?_)))
  first
    | refine wpAny_bind (wpAny_specialOf (name := Str.ofString "__len__") hT slot_deque_len.lookup ?_)
    | refine wpAny_bind (wpAny_pure (wpAny_bind (wpAny_specialOf (name := Str.ofString "__len__") hT slot_deque_len.lookup ?_)))
  first
    | exact wpAny_bind (wpAny_mono key (fun r s' h' => by obtain ⟨rfl, hq⟩ := h'; exact wpAny_pure hq) fun _ _ e => e)
    | exact wpAny_bind (wpAny_pure (wpAny_bind (wpAny_mono key (fun r s' h' => by obtain ⟨rfl, hq⟩ := h'; exact wpAny_pure hq) fun _ _ e => e)))
end
section
variable {D : Wd} {n : Nat} {W : Wld}
theorem CallR.deque : CallR D n W (.type "collections.deque") [] [] .deq W := by
  intro A F G s vs ks Q E rm c ra hk rk k
  obtain rfl : ks = [] := by simpa using hk
  obtain rfl := ra.nil_v
  refine call_deque fun h' hk hg => ?_
  have c₁ : Core D F G W { s with heap := h', toks := s.toks } := c.grow hk
  exact k _ _ _ Led.le_add (c₁.freeze hg (c.fresh_F (Nat.le_refl _)) (c.fresh_W (Nat.le_refl _))) (.deq (.inr ⟨rfl, rfl⟩) rfl ⟨_, _, rfl⟩)
theorem TruthR.deq : TruthR D n .deq false := fun A F G W s x Q E rm c rx k => by
  cases rx with
  | deq g hc hd =>
    obtain ⟨u, v, hd⟩ := hd
    exact truthy_deque (c.inn _ _ g) hc hd fun tk => k G _ Led.le.rfl (c.toks tk)
theorem OpR.eqsn {x : PySem.Str} : OpR D n (compareOp .Eq) (.str x) .none (.bool false) := fun A F G W s a b Q E rm c rx ry k => by
  obtain ⟨t1, rfl⟩ := Rep.str_v rx; obtain rfl := Rep.none_v ry; with_reducible exact EqNone.eq_str_none (k G _ _ Led.le.rfl c (.bool _))
theorem OpR.eqnn : OpR D n (compareOp .Eq) .none .none (.bool true) := fun A F G W s a b Q E rm c rx ry k => by
  obtain rfl := Rep.none_v rx; obtain rfl := Rep.none_v ry; with_reducible exact EqNone.eq_none_none (k G _ _ Led.le.rfl c (.bool _))
theorem OpR.intup {x : PySem.Str} {xs : List PySem.Str} : OpR D n (compareOp .In) (.str x) (.tup (xs.map PV.str)) (.bool (xs.any (· == x))) := fun A F G W s a b Q E rm c rx ry k => by
  obtain ⟨t, rfl⟩ := repStr rx
  obtain ⟨l, rfl⟩ := ry.tup_ref
  obtain ⟨vs, hl, rs⟩ := ry.isTup c
  have hl' : s.heap.IsTuple l vs.toArray := hl
  refine PySem.SeqAt.in_tupleAt (fun v => match v with | .str z _ => decide (z = x) | _ => false) hl' (fun y hy => ?_) ?_
  · have hst := strsOf rs
    obtain ⟨i, hi, rfl⟩ := List.getElem_of_mem (List.mem_toArray.mp hy)
    have hix : vs[i]? = some vs[i] := List.getElem?_eq_getElem hi
    obtain ⟨p, hp, rp⟩ := rs.get' i _ hix
    rw [List.getElem?_map] at hp
    cases hz : xs[i]? with
    | none => rw [hz] at hp; cases hp
    | some z =>
      rw [hz] at hp
      cases hp
      obtain ⟨u, e⟩ := repStr rp
      rw [e]
      exact fun prog w E Q h => wpAny_eqBool_str h
  · have e : vs.toArray.any (fun v => match v with | .str z _ => decide (z = x) | _ => false) = xs.any (· == x) := by
      rw [List.any_toArray]
      clear k hl hl' ry
      induction xs generalizing vs with
      | nil => obtain rfl := rs.nil_v; rfl
      | cons z zs ih =>
        obtain ⟨v1, us, rfl, r1, rs2⟩ := rs.cons_v
        obtain ⟨u, rfl⟩ := repStr r1
        rw [List.any_cons, List.any_cons, ih _ rs2]
        congr 1
    rw [e]
    exact k G _ _ Led.le.rfl c (.bool _)
end
end

section
open PySem PySem.W PyProof.Rows PySem.Calls PyProof.V
noncomputable def cd725 : ClassData := { name := "StringIO", bases := [.ref 248], mro := [.ref 725, .ref 248, .ref 221, .type "object"], ns := 724, qualname := "StringIO" }
noncomputable def cd248 : ClassData := { name := "TextIOBase", bases := [.ref 221], mro := [.ref 248, .ref 221, .type "object"], ns := 247, qualname := "TextIOBase", subclasses := [.ref 725] }
noncomputable def cd221 : ClassData := { name := "IOBase", bases := [.type "object"], mro := [.ref 221, .type "object"], ns := 220, qualname := "IOBase", subclasses := [.ref 236, .ref 248] }
structure IOClasses (h : Heap) : Prop where
  a : ∃ k0 k1 k2 k3 k5, h.get? 725 = some ⟨.type "type", none, .cls cd725, #[k0, k1, k2, k3, some .none, k5]⟩
  b : ∃ k0 k1 k2 k3 k5, h.get? 248 = some ⟨.type "type", none, .cls cd248, #[k0, k1, k2, k3, some .none, k5]⟩
  c : ∃ k0 k1 k2 k3 k5, h.get? 221 = some ⟨.type "type", none, .cls cd221, #[k0, k1, k2, k3, some .none, k5]⟩
theorem madeBy_object : Bind.madeBy (.type "object") = pure (some "object.__new__") := madeBy_type PySem.F.mro_object (by rw [typeLookup_type, builtinLookup_eq_fast]; kernel_rfl) (by decide +kernel)
theorem looks_madeBy_725 {M : Model} {h : Heap} (I : IOClasses h) : Looks M h (Bind.madeBy (.ref 725)) none := by
  obtain ⟨⟨k0, k1, k2, k3, k5, ha⟩, _, _⟩ := I
  intro A Q E s k q
  have ha' := k _ _ ha
  obtain ⟨hh, g, dr, t, os⟩ := s
  dsimp only at ha'
  unfold Bind.madeBy
  repeat lk
  exact q
theorem looks_staticBase {M : Model} {h : Heap} (I : IOClasses h) : Looks M h (Bind.staticBase (.ref 725)) (.type "object") := by
  obtain ⟨⟨k0, k1, k2, k3, k5, ha⟩, ⟨l0, l1, l2, l3, l5, hb⟩, ⟨m0, m1, m2, m3, m5, hc⟩⟩ := I
  intro A Q E s k q
  have ha' := k _ _ ha
  have hb' := k _ _ hb
  have hc' := k _ _ hc
  obtain ⟨hh, g, dr, t, os⟩ := s
  dsimp only at ha' hb' hc'
  unfold Bind.staticBase
  repeat (first | exact q | rw [madeBy_object] | lk)
section
variable {prog : Program} {w : World} {A : Around} {R : Result → Shared → Prop} {h : Heap} {g : Array GenState} {d : Drawn} {t : Nat} {os : OsState}
theorem new_IO (I : IOClasses h) (hq : R (.ok (.ret (.ref (h.objs.size + 1)))) ⟨(h.push emptyDict).push (instObj 725 h.objs.size), g, d, t, os⟩) :
    codeAny (model prog w) A (.call (.builtin "object.__new__") ⟨[.ref 725], []⟩) R ⟨h, g, d, t, os⟩ := by
  have made := looks_madeBy_725 (M := model prog w) I
  have base := looks_staticBase (M := model prog w) I
  obtain ⟨⟨k0, k1, k2, k3, k5, hC⟩, _, _⟩ := I
  have F := PySem.F.objNew
  refine codeAny_call_builtin_code (Code.quiet_builtin _ F.quiet) ?_
  simp only [checkBuiltinCall, F.kind, F.split, F.row]
  have here : Looks (model prog w) h (Bind.madeHere "object.__new__" (.ref 725)) () := base.andThen ((Looks.of_pure madeBy_object).andThen (Looks.of_pure (by simp only [Option.map_some, bne_self_eq_false, Bool.false_eq_true, if_false])))
  have args : Bind.checkArgs "object.__new__" ⟨.hand, "object.__new__", "__new__", .cls, []⟩ ⟨[.ref 725], []⟩ = pure () := by kernel_rfl
  rw [args]
  repeat (first | simp only [bne_self_eq_false, Bool.false_eq_true, if_false] | rw [madeBy_object] | lk)
  refine codeAny_builtin F.entry ?_
  unfold Builtin.«object.__new__»
  have fin : ∀ A', wpAny (model prog w) A' (do
      let d ← if typeHasDict (.ref 725) then some <$> alloc { cls := .type "dict", data := .dict #[] } else pure none
      ret (← newObj (.ref 725) .plain d)) (fun fin s' => match fin with | .done f => R (.ok f) s' | .again c' => c'.quiet = true ∧ codeAny (model prog w) A c' R s') (fun e s' => R (.error e) s') ⟨h, g, d, t, os⟩ := by
    intro A'
    show wpAny _ _ ((alloc emptyDict >>= fun x => pure (some x)) >>= _) _ _ _
    refine wpAny_bind (wpAny_bind (wpAny_alloc (wpAny_pure (wpAny_bind ?_))))
    show wpAny _ _ (newObjAsIs _ _ _) _ _ _
    unfold newObjAsIs classHasDel
    refine wpAny_bind (wpAny_alloc (wpAny_bind (wpAny_bind (wpAny_load (Heap.get?_push_of_some _ (Heap.get?_push_of_some _ hC)) (wpAny_pure ?_)))))
    refine wpAny_ite_split (fun hab => absurd (show false = true from hab) Bool.false_ne_true) (fun _ => ?_)
    refine wpAny_pure (wpAny_pure ?_)
    show R _ _
    rw [Heap.size_push]
    exact hq
  repeat (first | exact fin _ | simp only [bne_self_eq_false, Bool.false_eq_true, if_false, Bool.not_true] | lk)
end
end

section
open PySem PySem.W PyProof.Rows PySem.Calls PyProof.V
structure NewFacts (K : Frag) (C p fN fI : Addr) : Prop where
  call : specialIn K (.ref C) "__call__" = some (some (.builtin "type.__call__"))
  typ : instIn K (.ref C) (.type "type") = some true
  reads : readsIn K C (.type "type") = true
  new : findCls K (.ref C) (.type "type") "__new__" = some (.get (.builtin "staticmethod.__get__") (.ref p) .none (.ref C))
  sm : recIn K p "staticmethod" = some [.ref fN]
  self : subIn K (.ref C) (.ref C) = some true
  init : findIn K (.ref C) "__init__" = some (some (.ref fI))
  fn : typeIn K (.ref fI) = some (.type "function")
section
variable {prog : Program} {w : World} {A : Around} {R : Result → Shared → Prop} {h : Heap} {g : Array GenState} {d : Drawn} {t : Nat} {os : OsState} {K : Frag} {C p fN fI : Addr}
theorem make_new {rest : List Value} {oc : Value} {od : Option Addr} {cd : ClassData} {sl : Array (Option Value)} (X : K.In h) (hC : h.get? C = some ⟨oc, od, .cls cd, sl⟩) (e4 : cd.mro.isEmpty = false) (made : Looks (model prog w) h (Bind.madeBy (.ref C)) none) (Y : NewFacts K C p fN fI)
    (hn : wpAny (model prog w) (A.under (.builtin "type.__call__" ⟨.ref C :: rest, []⟩)) (PySem.call (.ref fN) (.ref C :: rest)) (fun obj s' => ∃ x dd, obj = .ref x ∧ s'.heap.get? x = some (instObj C dd) ∧ (∃ o, s'.heap.get? dd = some o) ∧ K.In s'.heap ∧
      codeAny (model prog w) (A.under (.builtin "type.__call__" ⟨.ref C :: rest, []⟩)) (.call (.ref fI) ⟨.ref x :: rest, []⟩) (InitBack x R) s') (fun _ _ => False) ⟨h, g, d, t + 1, os⟩) :
    codeAny (model prog w) A (.call (.ref C) ⟨rest, []⟩) R ⟨h, g, d, t, os⟩ := by
  refine codeAny_of_tree ?_
  show wpAny _ _ (callAny (.ref C) _) _ _ _
  refine nd_load hC ?_
  show wpAny _ _ (callAny.viaDunder (.ref C) _) _ _ _
  unfold callAny.viaDunder
  refine wpAny_bind ((looks_specialIn X Y.call).at ?_)
  dsimp only
  rw [tc_bind]
  refine wpAny_bind (wpAny_pure (wpAny_bind (wpAny_pure ?_)))
  refine wpAny_pure (a := Fin.again (.call (.builtin "type.__call__") ⟨.ref C :: rest, []⟩)) (And.intro rfl ?_)
  refine codeAny_call_builtin_at (Code.quiet_builtin _ (by decide +kernel)) entry_typeCall (check_slot tc_kind tc_split (looks_instIn X Y.typ) (tc_args _ _ _) ?_)
  unfold Builtin.«type.__call__»
  have hm : Looks (model prog w) h (mroOf (.ref C)) cd.mro := ((Looks.ld (part := none) hC).andThen .now).andThen .now
  dsimp only
  rw [if_neg (by exact fun h => nomatch h)]
  refine wpAny_bind (hm.at ?_)
  rw [if_neg (by rw [e4]; exact Bool.false_ne_true)]
  refine wpAny_bind (made.at ?_)
  dsimp only
  refine wpAny_bind (cls_bind X Y.reads Y.new (wpAny_call (sm_get X Y.sm (handed_on rfl ?_))))
  refine wpAny_bind (wpAny_holding (wpAny_mono hn (fun obj s' hq => ?_) fun _ _ z => z.elim))
  obtain ⟨x, dd, rfl, hx, ⟨o, ho⟩, X', hq⟩ := hq
  have I : InstAt s'.heap x (instObj C dd) C (some o) := ⟨hx, rfl, rfl, ho⟩
  have L : Looks (model prog w) s'.heap (isInstance (.ref x) (.ref C)) true := I.type.andThen (looks_subIn X' Y.self)
  refine wpAny_bind (L.here ?_)
  rw [if_neg (by exact Bool.false_ne_true)]
  refine wpAny_bind (wpAny_holding (special_fn X' I Y.init Y.fn (wpAny_call (codeAny_mono hq fun r s₂ z => ?_))))
  rcases r with e | (v | _ | _ | _) <;> first | exact z | exact z.elim | skip
  obtain ⟨rfl, z⟩ := z
  exact wpAny_pure z
end
end

section
open PySem PySem.W PyProof.Rows PySem.Calls PyProof.V
theorem type_object : typeOf (.type "object") = pure (.type "type") := by kernel_rfl
theorem cls_object (K : Frag) : findCls K (.type "object") (.type "type") "__new__" = some (.val (.builtin "object.__new__")) := by kernel_rfl
section
variable {prog : Program} {w : World} {A : Around} {E : Value → Shared → Prop} {s : Shared} {K : Frag}
theorem method_typeX {T : String} {name : PySem.Str} {v : Value} {pl : Sem Bool} {Q : Value × List Value → Shared → Prop} (X : K.In s.heap) (ht : typeOf (.type T) = pure (.type "type")) (hs : Manifest.isStub T = false)
    (e : findCls K (.type T) (.type "type") name = some (.val v)) (hh : handedIn v = true) (h : Q (v, []) { s with toks := s.toks + 1 }) : wpAny (model prog w) A (getMethod (.type T) name pl) Q E s := by
  have hstub : opaqueClassAbove (.type T) = pure none := by unfold opaqueClassAbove; dsimp only; rw [hs]; rfl
  have L0 : Looks (model prog w) s.heap (typeOf (.type T)) (.type "type") := Looks.of_pure ht
  have hg : findIn K (.type "type") "__getattribute__" = some (some (.builtin "type.__getattribute__")) := type_tga
  unfold getMethod specialOf
  refine wpAny_bind (wpAny_bind (L0.here ((looks_findIn X hg).here ?_)))
  dsimp only
  rw [if_pos canon_tga]
  refine wpAny_bind (wpAny_mono (Q := fun v => Q (v, [])) (E := E) ?_ (fun _ _ z => wpAny_pure z) fun _ _ z => z)
  have LO : Looks (model prog w) s.heap (opaqueClassAbove (.type T)) none := Looks.of_pure hstub
  exact cls_open X LO L0 hg (looks_hook X (r := none) (by rfl)) (by show subIn K _ _ = _; rfl) e
    (wpAny_pure (by show wpAny _ _ (handedOut v) _ _ _; rw [handedOut_of hh]; exact wpAny_pure h))
end
section
variable {D : Wd} {n : Nat} {env : Env} {W W₁ W₂ : Wld} {K : Frag}
theorem methodCall_atT {M : Model} {A : Around} {E : Value → Shared → Prop} {s : Shared} {o : Expr} {name : PySem.Str} {apos pos : Pos} {args : List Expr} {ov f : Value} {first : List Value} {Q : Value → Shared → Prop}
    (hfew : (backTo pos (starEach args env)).all (fun x => !x.1) = true) (hn : args.length < 30) (hline : (apos.endLine == pos.line) = true)
    (hg : ∀ (pl : Sem Bool) (Q : Value × List Value → Shared → Prop), Q (f, first) { s with toks := s.toks + 1 } → wpAny M A (getMethod ov name pl) Q E s)
    (h : wpAny M A (callWith pos f first (backTo pos (starEach args env)) []) Q E { s with toks := s.toks + 1 }) :
    wpAny M A (methodCall o name apos pos env ov (args.length + ([] : List Keyword).length) (backTo pos (starEach args env)) (backToKw pos (keywordEach [] env))) Q E s := by
  have hform : methodCallForm (args.length + ([] : List Keyword).length) (backTo pos (starEach args env)) (backToKw pos (keywordEach [] env)) = true := by
    show ((backTo pos (starEach args env)).all (fun x => !x.1) && (([] : List (Option PySem.Str × Sem Value)).all (fun x => x.1.isSome)) && decide (args.length + 0 + 0 < 30)) = true
    rw [hfew]
    simpa using hn
  have hpos : methodCallPos true o env apos pos = pure pos := by unfold methodCallPos; simp [hline]
  unfold methodCall
  rw [hform]
  refine wpAny_bind (wpAny_holding (hg _ _ ?_))
  exact wpAny_bind (wpAny_of_eq hpos h)
theorem evalTypeMeth {o : Expr} {apos pos : Pos} {arg : Expr} {T id : String} {name : PySem.Str} {u : Value} (X : K.In D.B) (ht : typeOf (.type T) = pure (.type "type")) (hs : Manifest.isStub T = false) (e : findCls K (.type T) (.type "type") name = some (.val (.builtin id))) (hh : handedIn (.builtin id) = true)
    (hbase : ∀ t, attributeBase o name env t = t) (ho : EvalR D n env W o (.con (.type T)) W₁) (ha : EvalsR D n env W₁ [arg] [.con u] W₂) (hline : (apos.endLine == pos.line) = true)
    (A : Around) (F G : Led) (s : Shared) (Q : Value → Shared → Prop) (E : Value → Shared → Prop) (rm : Room A n) (c : Core D F G W s) (k : ∀ G' s', G.le G' → Core D F G' W₂ s' → wpAny (model D.prog D.w) A (PySem.call (.builtin id) [u]) Q E s') :
    wpAny (model D.prog D.w) A (eval (.Call (.Attribute o name apos) [arg] [] pos) env) Q E s := by
  rw [arm_eval_Call, hbase]
  refine wpAny_bind (ho A F G s _ E rm c fun G₁ ov s₁ l₁ c₁ rv => wpAny_bind (wpAny_standAt ?_))
  obtain rfl := rv.con_v
  refine methodCall_atT (first := []) (f := .builtin id) (ha.noStar (pos := pos)).2 (show 1 < 30 by decide) hline (fun pl Q hq => method_typeX (X.keeps c₁.keeps) ht hs e hh hq) ?_
  refine callWith_flat (fun a e => by cases e) (ha.noStar (pos := pos)).1 (evalArgs_of (ha.noStar (pos := pos)).1 (ha.wp A F G₁ _ _ E rm (c₁.toks _) fun G₂ us s₂ l₂ c₂ rs => ?_))
  obtain ⟨v1, rfl, r1⟩ := RepAll.one rs
  cases r1
  exact k G₂ s₂ (l₁.trans l₂) c₂
theorem new_IOR (I : IOClasses D.B) (A : Around) (F G : Led) (s : Shared) (Q : Value → Shared → Prop) (E : Value → Shared → Prop) (c : Core D F G W s) (k : ∀ x d G' s', G.le G' → Core D F G' ((x, .raw (instObj 725 d)) :: (d, .attrs []) :: W) s' → Q (.ref x) s') :
    wpAny (model D.prog D.w) A (PySem.call (.builtin "object.__new__") [.ref 725]) Q E s := by
  obtain ⟨hh, g, dr, t, os⟩ := s
  have I' : IOClasses hh := by
    obtain ⟨⟨k0, k1, k2, k3, k5, ha⟩, ⟨l0, l1, l2, l3, l5, hb⟩, ⟨m0, m1, m2, m3, m5, hc⟩⟩ := I
    exact ⟨⟨k0, k1, k2, k3, k5, c.keeps _ _ ha⟩, ⟨l0, l1, l2, l3, l5, c.keeps _ _ hb⟩, ⟨m0, m1, m2, m3, m5, c.keeps _ _ hc⟩⟩
  have e1 : (hh.push emptyDict).objs.size = hh.objs.size + 1 := Heap.size_push ..
  have c₁ : Core D F G ((hh.objs.size, .attrs []) :: W) { (⟨hh, g, dr, t, os⟩ : Shared) with heap := hh.push emptyDict, toks := t } :=
    c.new (t := t) (Nat.le_refl _) (fun _ _ e => Heap.get?_push_of_some _ e) ⟨fun _ => none, Heap.Ns1.of_empty ⟨_, #[], _, Heap.get?_push_size _ rfl, rfl, fun e he => absurd he (by simp), fun _ => rfl⟩, fun y p e => by simp at e, fun _ _ => rfl⟩
  have c₂ := c₁.newRaw (instObj 725 hh.objs.size) rfl
  have c₃ : Core D F G ((hh.objs.size + 1, .raw (instObj 725 hh.objs.size)) :: (hh.objs.size, .attrs []) :: W) ⟨(hh.push emptyDict).push (instObj 725 hh.objs.size), g, dr, t, os⟩ := by
    have := c₂
    simp only [e1] at this
    exact this
  exact wpAny_call (new_IO I' (k _ _ G _ Led.le.rfl c₃))
theorem evalNew {p apos pos : Pos} {arg : Expr} (X : K.In D.B) (I : IOClasses D.B) (hbase : ∀ t, attributeBase (.Name "object" p) "__new__" env t = t) (ho : EvalR D n env W (.Name "object" p) (.con (.type "object")) W₁) (ha : EvalsR D n env W₁ [arg] [.con (.ref 725)] W₂) (hline : (apos.endLine == pos.line) = true)
    (A : Around) (F G : Led) (s : Shared) (Q : Value → Shared → Prop) (E : Value → Shared → Prop) (rm : Room A n) (c : Core D F G W s) (k : ∀ x d G' s', G.le G' → Core D F G' ((x, .raw (instObj 725 d)) :: (d, .attrs []) :: W₂) s' → Q (.ref x) s') :
    wpAny (model D.prog D.w) A (eval (.Call (.Attribute (.Name "object" p) "__new__" apos) [arg] [] pos) env) Q E s :=
  evalTypeMeth X type_object (by decide +kernel) (cls_object K) (by decide +kernel) hbase ho ha hline A F G s Q E rm c fun G₁ s₁ l₁ c₁ => new_IOR I A F G₁ s₁ Q E c₁ fun x d G' s' l c' => k x d G' s' (l₁.trans l) c'
end
end

section
open PySem PySem.W PyProof.Rows PySem.Calls PyProof.V
section
variable {D : Wd} {n : Nat} {env : Env} {W W₁ W₂ : Wld} {K : Frag} {C : Addr}
noncomputable def NewQ (D : Wd) (F G : Led) (C : Addr) (W : Wld) (Q : Addr → Shared → Prop) : Prop := ∀ x d G' s', G.le G' → Core D F G' ((x, .raw (instObj C d)) :: (d, .attrs []) :: W) s' → Q x s'
theorem callNew {fN : Addr} {fd : FuncData} {body : List Stmt} {x₁ x₂ x₃ : PySem.Str} (o : D.Ok) (fa : FnAt D fN fd body) (hnd : [x₁, x₂, x₃].Nodup) (hcell : ∀ x ∈ fd.scope.names, x.2 ≠ .cell) (hloc : ∀ x ∈ [x₁, x₂, x₃], fd.scope.names.lookup x = some .local)
    (hbind : ∀ v u, bindArgs fd ⟨[v, u], []⟩ = (newTuple [u] >>= fun t => alloc emptyDict >>= fun k => pure [(x₁, v), (x₂, t), (x₃, .ref k)]))
    (h : ∀ (L : Addr) (env : Env) (t k : Value), EnvOk env L fd.scope.names [] → ∀ (A : Around) (F G : Led) (s : Shared) (Q : Flow → Shared → Prop) (E : Value → Shared → Prop), Room A n → Core D F G ((L, .frame [(x₁, .con (.ref C)), (x₂, .con t), (x₃, .con k)]) :: W) s →
      NewQ D F G C ((L, .frame [(x₁, .con (.ref C)), (x₂, .con t), (x₃, .con k)]) :: W) (fun x s' => Q (.ret (.ref x)) s') → wpAny (model D.prog D.w) A (execs body env) Q E s)
    (A : Around) (F G : Led) (s : Shared) (u : Value) (Q : Value → Shared → Prop) (E : Value → Shared → Prop) (rm : Room A (n + 1)) (c : Core D F G W s) (k : NewQ D F G C W (fun x s' => Q (.ref x) s')) :
    wpAny (model D.prog D.w) A (PySem.call (.ref fN) [.ref C, u]) Q E s := by
  obtain ⟨ob, ho, hd⟩ := fa.ob
  refine wpAny_call (codeAny_call_function rm.d (c.keeps _ _ ho) hd fa.co fa.gen fa.body (fa.code.keeps c.keeps) ?_)
  rw [hbind]
  have c₂ := c.grow (t := s.toks) (h' := (s.heap.push { cls := .type "tuple", data := .seq [u].toArray }).push emptyDict) (fun _ _ e => Heap.get?_push_of_some _ (Heap.get?_push_of_some _ e))
  refine wpAny_bind (wpAny_newTuple (wpAny_bind (wpAny_alloc (wpAny_pure ?_))) (by rw [sizeLine_eq]; exact Nat.le_of_lt (show 1 < _ by decide)))
  have hl : ∀ (t k : Value), ∀ x ∈ [(x₁, Value.ref C), (x₂, t), (x₃, k)], fd.scope.names.lookup x.1 = some .local := by
    intro t k x hx
    have : x.1 ∈ [x₁, x₂, x₃] := by
      have := List.mem_map_of_mem (f := fun z : PySem.Str × Value => z.1) hx
      exact this
    exact hloc _ this
  refine wpAny_newFunctionEnv hcell (hl _ _) (fun h₀ hns hsb => ⟨(o.nolimit.keeps c₂.keeps).fresh _ hsb, codeAny_func ?_⟩) fa.kind
  have hkp : ∀ a o, ((s.heap.push { cls := .type "tuple", data := .seq [u].toArray }).push emptyDict).get? a = some o → h₀.get? a = some o := fun b o e => hsb.extBut b o (Nat.ne_of_lt (Heap.lt_size e)) (Heap.get?_push_of_some _ e)
  have c₁ : Core D F G ((_, .frame [(x₁, .con (.ref C)), (x₂, .con (.ref s.heap.objs.size)), (x₃, .con (.ref (s.heap.push { cls := .type "tuple", data := .seq [u].toArray }).objs.size))]) :: W) { s with heap := h₀, toks := s.toks + 3 } :=
    c₂.new (t := s.toks + 3) (Nat.le_refl _) hkp ⟨_, hns, zip_lookup (G := G) [x₁, x₂, x₃] [.ref C, .ref s.heap.objs.size, .ref (s.heap.push { cls := .type "tuple", data := .seq [u].toArray }).objs.size] [.con (.ref C), .con _, .con _] (.cons (.con _) (.cons (.con _) (.cons (.con _) .nil))) hnd⟩
  refine wpAny_mono (h _ (callEnv fd _ fN) _ _ ⟨fa.kind, fun _ => rfl, rfl, fa.glob, fa.blt, fa.clos⟩ _ F G _ (fun fl s' => ∃ x, fl = .ret (.ref x) ∧ Q (.ref x) s') (fun _ _ => False) rm.deeper c₁ ?_) (fun fl s' hq => ?_) fun _ _ e => e.elim
  · intro x d G' s' l c'
    refine ⟨x, rfl, k x d G' s' l (c'.sub ?_)⟩
    exact List.Sublist.cons_cons _ (List.Sublist.cons_cons _ (List.Sublist.cons _ (List.Sublist.refl _)))
  · obtain ⟨x, rfl, hq⟩ := hq
    exact hq
end
end

section
open PySem PySem.W PyProof.Rows PySem.Calls PyProof.V
section
variable {D : Wd} {n : Nat} {env : Env} {W W₁ W₂ : Wld} {K : Frag} {C : Addr}
theorem makeNewR {p fN fI : Addr} {a : PV} {W' : Addr → Addr → Wld} {oc : Value} {od : Option Addr} {cd : ClassData} {sl : Array (Option Value)} (X : K.In D.B) (hC : D.B.get? C = some ⟨oc, od, .cls cd, sl⟩) (e4 : cd.mro.isEmpty = false)
    (made : Looks (model D.prog D.w) D.B (Bind.madeBy (.ref C)) none) (Y : NewFacts K C p fN fI)
    (hN : ∀ (A : Around) (F G : Led) (s : Shared) (u : Value) (Q : Value → Shared → Prop) (E : Value → Shared → Prop), Room A n → Core D F G W s → NewQ D F G C W (fun x s' => Q (.ref x) s') → wpAny (model D.prog D.w) A (PySem.call (.ref fN) [.ref C, u]) Q E s)
    (hI : ∀ x d, CodeR D n ((x, .raw (instObj C d)) :: (d, .attrs []) :: W) (.ref fI) [.con (.ref x), a] [] .none (W' x d)) (A : Around) (F G : Led) (s : Shared) (vs : List Value) (ks : List (PySem.Str × Value)) (Q : Value → Shared → Prop) (E : Value → Shared → Prop)
    (rm : Room A (n + 1)) (c : Core D F G W s) (ra : RepAll G vs [a]) (hk : ks.map (·.1) = ([] : List (PySem.Str × PV)).map (·.1)) (rk : RepAll G (ks.map (·.2)) (([] : List (PySem.Str × PV)).map (·.2))) (k : ∀ x d G' s', G.le G' → Core D F G' (W' x d) s' → Q (.ref x) s') :
    wpAny (model D.prog D.w) A (call (.ref C) vs ks) Q E s := by
  obtain rfl : ks = [] := by simpa using hk
  obtain ⟨u, rfl, r1⟩ := ra.one
  obtain ⟨hh, g, dr, t, os⟩ := s
  refine wpAny_call ?_
  refine make_new (X.keeps c.keeps) (c.keeps _ _ hC) e4 (made.keeps c.keeps) Y ?_
  refine hN _ F G _ u _ _ (tcallRoom rm) (c.toks (t + 1)) fun x d G₁ s₁ l₁ c₁ => ?_
  have hx : s₁.heap.get? x = some (instObj C d) := c₁.wok (x, .raw (instObj C d)) (.head _)
  have hd := MO.has (c₁.wok (d, .attrs []) (.tail _ (.head _)))
  refine ⟨x, d, rfl, hx, hd, X.keeps c₁.keeps, ?_⟩
  refine hI x d _ F G₁ _ [.ref x, u] [] _ (tcallRoom rm) c₁ (.cons (.con _) (.cons (r1.mono l₁) .nil)) rfl .nil fun G₂ v s₂ l₂ c₂ r => ?_
  obtain rfl := r.none_v
  exact ⟨rfl, k _ _ G₂ s₂ (l₁.trans l₂) c₂⟩
end
end

section
open PySem PySem.W PyProof.Rows PySem.Calls PyProof.V
section
variable {D : Wd} {n : Nat} {W : Wld}
theorem compare_isNot {M : Model} {A : Around} {E : Value → Shared → Prop} {s : Shared} {a b : Value} {r : Bool} {Q : Value → Shared → Prop} (h : wpAny M A (isSame a b) (fun x s' => x = r ∧ s' = s) E s) (k : Q (.bool (!r)) s) : wpAny M A (compareOp .IsNot a b) Q E s := by
  show wpAny M A (isSame a b >>= fun x => pure (Value.bool (!x))) Q E s
  refine wpAny_bind (wpAny_mono h (fun x s' hq => ?_) fun _ _ z => z)
  obtain ⟨rfl, rfl⟩ := hq
  exact wpAny_pure k
theorem OpR.isNotT {x y : String} : OpR D n (compareOp .IsNot) (.con (.type x)) (.con (.type y)) (.bool (!(Value.type x == Value.type y))) := fun A F G W s a b Q E rm c rx ry k => by
  cases rx; cases ry
  exact compare_isNot (wpAny_pure ⟨rfl, rfl⟩) (k G _ _ Led.le.rfl c (.bool _))
theorem OpR.isNotRN {x : Addr} : OpR D n (compareOp .IsNot) (.con (.ref x)) .none (.bool true) := fun A F G W s a b Q E rm c rx ry k => by
  cases rx; obtain rfl := Rep.none_v ry
  exact compare_isNot (r := false) (wpAny_pure ⟨rfl, rfl⟩) (k G _ _ Led.le.rfl c (.bool _))
theorem OpR.isNotSame {x : Addr} : OpR D n (compareOp .IsNot) (.con (.ref x)) (.con (.ref x)) (.bool false) := fun A F G W s a b Q E rm c rx ry k => by
  cases rx; cases ry
  refine compare_isNot (r := true) ?_ (k G _ _ Led.le.rfl c (.bool _))
  unfold isSame
  dsimp only
  rw [if_pos (beq_self_eq_true x)]
  exact wpAny_pure ⟨rfl, rfl⟩
theorem OpR.isNotCls {x y : Addr} {oc oc' : Value} {od od' : Option Addr} {cd cd' : ClassData} {sl sl' : Array (Option Value)} (hne : (x == y) = false) (hx : D.B.get? x = some ⟨oc, od, .cls cd, sl⟩) (hy : D.B.get? y = some ⟨oc', od', .cls cd', sl'⟩) :
    OpR D n (compareOp .IsNot) (.con (.ref x)) (.con (.ref y)) (.bool true) := fun A F G W s a b Q E rm c rx ry k => by
  cases rx; cases ry
  refine compare_isNot (r := false) ?_ (k G _ _ Led.le.rfl c (.bool _))
  unfold isSame
  dsimp only
  rw [if_neg (by rw [hne]; exact Bool.false_ne_true)]
  refine wpAny_bind (wpAny_load (c.keeps _ _ hx) (wpAny_bind (wpAny_load (c.keeps _ _ hy) ?_)))
  dsimp only
  split
  · rename_i q; cases q
  · exact wpAny_pure ⟨rfl, rfl⟩
end
end

section
open PySem PySem.W PyProof.Rows PySem.Calls PyProof.V
theorem Core.permW {D : Wd} {F G : Led} {W W' : Wld} {s : Shared} (h : W.Perm W') (c : Core D F G W s) : Core D F G W' s :=
  ⟨c.base, c.inn, c.frn, c.apart, fun p hp => c.wG p (h.mem_iff.mpr hp), fun p hp => c.wF p (h.mem_iff.mpr hp), ((h.map _).nodup_iff).mp c.nd, fun p hp => c.wok p (h.mem_iff.mpr hp), c.gens, c.os⟩
section
variable {D : Wd} {n : Nat} {env : Env} {W W' W₁ W₂ : Wld}
theorem EvalR.neg {e : Expr} {pos : Pos} {i : Int} (h : EvalR D n env W e (.int i) W₁) : EvalR D n env W (.UnaryOp .USub e pos) (.int (-i)) W₁ := by
  intro A F G s Q E rm c k
  refine wpAny_UnaryOp (h A F G s _ E rm c fun G₁ v s₁ l₁ c₁ r₁ => ?_)
  obtain ⟨t, rfl⟩ := r₁.int_v
  exact neg_int (k G₁ _ _ l₁ (c₁.toks _) (.int _ _))
theorem CallR.int {i : Int} : CallR D n W (.type "int") [.int i] [] (.int i) W := CallR.of1 fun A F G W s a Q E rm c ra k => by
  obtain ⟨t, rfl⟩ := ra.int_v
  exact call_int_int (k G _ _ Led.le.rfl c (.int _ _))
end
end

section
open PySem PySem.W PyProof.Rows PySem.Calls PyProof.V
section
variable {D : Wd} {n : Nat} {W W' : Wld}
theorem CodeR.kE (f : D.Fit) (a : Addr) {c : Value} {d : Option Addr} {fd : FuncData} {sl : Array (Option Value)} {body : List Stmt} {as : List PV} {p : PV} (xs : List PySem.Str)
    (e : (KK D).lookup a = some ⟨c, d, .func fd, sl⟩) (hb : fd.body = .stmts body) (hc : codeIn (KK D) fd.code fd.qualname = true) (hok : fdOk fd xs = true) (hlen : xs.length = as.length)
    (hbind : ∀ vs : List Value, vs.length = as.length → bindArgs fd ⟨vs, []⟩ = pure (xs.zip vs))
    (h : ∀ (L : Addr) (env : Env), EnvOk env L fd.scope.names [] → ∃ o, ExecR D n env ((L, .frame (xs.zip as)) :: W) body o ∧ o.Ends p W') : CodeR D (n + 1) W (.ref a) as [] p W' := by
  obtain ⟨a1, a2, a3, a4, a5, a6, a7, a8, a9⟩ := fdOk_facts hok
  refine CodeR.defn (qs := as) f.toOk (f.fn e hb hc a1 a2 a3 a4 a5 a6) xs (fun vs _ => vs) a9 (fun s vs ks _ hl hk => ?_) (fun G vs us r _ => r) a7 a8 h
  obtain rfl : ks = [] := by simpa using hk
  exact BindsTo.of_eq (hbind vs hl)
theorem CodeR.kN (f : D.Fit) (a : Addr) {c : Value} {d : Option Addr} {fd : FuncData} {sl : Array (Option Value)} {body : List Stmt} {as : List PV} (xs : List PySem.Str)
    (e : (KK D).lookup a = some ⟨c, d, .func fd, sl⟩) (hb : fd.body = .stmts body) (hc : codeIn (KK D) fd.code fd.qualname = true) (hok : fdOk fd xs = true) (hlen : xs.length = as.length)
    (hbind : ∀ vs : List Value, vs.length = as.length → bindArgs fd ⟨vs, []⟩ = pure (xs.zip vs))
    (h : ∀ (L : Addr) (env : Env), EnvOk env L fd.scope.names [] → ∃ σ, ExecK D n env ((L, .frame (xs.zip as)) :: W) [body] (.next ((L, .frame σ) :: W'))) : CodeR D (n + 1) W (.ref a) as [] .none W' :=
  CodeR.kE f a xs e hb hc hok hlen hbind fun L env ok => let ⟨σ, hx⟩ := h L env ok; ⟨_, ExecK.run hx, rfl, .cons _ (List.Sublist.refl _)⟩
theorem CodeR.kF (f : D.Fit) (a : Addr) {c : Value} {d : Option Addr} {fd : FuncData} {sl : Array (Option Value)} {body : List Stmt} {as : List PV} {p : PV} (xs : List PySem.Str)
    (e : (KK D).lookup a = some ⟨c, d, .func fd, sl⟩) (hb : fd.body = .stmts body) (hc : codeIn (KK D) fd.code fd.qualname = true) (hok : fdOk fd xs = true) (hlen : xs.length = as.length)
    (hbind : ∀ vs : List Value, vs.length = as.length → bindArgs fd ⟨vs, []⟩ = pure (xs.zip vs))
    (h : ∀ (L : Addr) (env : Env), EnvOk env L fd.scope.names [] → ExecK D n env ((L, .frame (xs.zip as)) :: W) [body] (.ret p ((L, .frame []) :: W'))) : CodeR D (n + 1) W (.ref a) as [] p W' :=
  CodeR.kE f a xs e hb hc hok hlen hbind fun L env ok => ⟨_, ExecK.run (h L env ok), rfl, .cons _ (List.Sublist.refl _)⟩
theorem CodeR.kD (f : D.Fit) (a T : Addr) {c : Value} {d : Option Addr} {fd : FuncData} {sl : Array (Option Value)} {body : List Stmt} {as qs : List PV} {kw : List (PySem.Str × PV)} {p : PV} {ob : Obj} (xs : List PySem.Str) (arr : List Value → List Value → List Value)
    (e : (KK D).lookup a = some ⟨c, d, .func fd, sl⟩) (eT : (KK D).lookup T = some ob) (hb : fd.body = .stmts body) (hc : codeIn (KK D) fd.code fd.qualname = true) (hok : fdOk fd xs = true)
    (hbind : ∀ (s : Shared) (vs : List Value) (ks : List (PySem.Str × Value)), s.heap.get? T = some ob → vs.length = as.length → ks.map (·.1) = kw.map (·.1) → BindsTo s fd ⟨vs, ks⟩ (xs.zip (arr vs (ks.map (·.2)))))
    (hrep : ∀ (G : Led) (vs us : List Value), RepAll G vs as → RepAll G us (kw.map (·.2)) → RepAll G (arr vs us) qs)
    (h : ∀ (L : Addr) (env : Env), EnvOk env L fd.scope.names [] → ∃ o, ExecR D n env ((L, .frame (xs.zip qs)) :: W) body o ∧ o.Ends p W') : CodeR D (n + 1) W (.ref a) as kw p W' := by
  obtain ⟨a1, a2, a3, a4, a5, a6, a7, a8, a9⟩ := fdOk_facts hok
  exact CodeR.defn (qs := qs) f.toOk (f.fn e hb hc a1 a2 a3 a4 a5 a6) xs arr a9 (fun s vs ks k hl hk => hbind s vs ks (k _ _ (f.kin _ _ eT)) hl hk) hrep a7 a8 h
theorem CodeR.kDN (f : D.Fit) (a T : Addr) {c : Value} {d : Option Addr} {fd : FuncData} {sl : Array (Option Value)} {body : List Stmt} {as qs : List PV} {kw : List (PySem.Str × PV)} {ob : Obj} (xs : List PySem.Str) (arr : List Value → List Value → List Value)
    (e : (KK D).lookup a = some ⟨c, d, .func fd, sl⟩) (eT : (KK D).lookup T = some ob) (hb : fd.body = .stmts body) (hc : codeIn (KK D) fd.code fd.qualname = true) (hok : fdOk fd xs = true)
    (hbind : ∀ (s : Shared) (vs : List Value) (ks : List (PySem.Str × Value)), s.heap.get? T = some ob → vs.length = as.length → ks.map (·.1) = kw.map (·.1) → BindsTo s fd ⟨vs, ks⟩ (xs.zip (arr vs (ks.map (·.2)))))
    (hrep : ∀ (G : Led) (vs us : List Value), RepAll G vs as → RepAll G us (kw.map (·.2)) → RepAll G (arr vs us) qs)
    (h : ∀ (L : Addr) (env : Env), EnvOk env L fd.scope.names [] → ∃ σ, ExecK D n env ((L, .frame (xs.zip qs)) :: W) [body] (.next ((L, .frame σ) :: W'))) : CodeR D (n + 1) W (.ref a) as kw .none W' :=
  CodeR.kD f a T xs arr e eT hb hc hok hbind hrep fun L env ok => let ⟨σ, hx⟩ := h L env ok; ⟨_, ExecK.run hx, rfl, .cons _ (List.Sublist.refl _)⟩
theorem CodeR.kDF {p : PV} (f : D.Fit) (a T : Addr) {c : Value} {d : Option Addr} {fd : FuncData} {sl : Array (Option Value)} {body : List Stmt} {as qs : List PV} {kw : List (PySem.Str × PV)} {ob : Obj} (xs : List PySem.Str) (arr : List Value → List Value → List Value)
    (e : (KK D).lookup a = some ⟨c, d, .func fd, sl⟩) (eT : (KK D).lookup T = some ob) (hb : fd.body = .stmts body) (hc : codeIn (KK D) fd.code fd.qualname = true) (hok : fdOk fd xs = true)
    (hbind : ∀ (s : Shared) (vs : List Value) (ks : List (PySem.Str × Value)), s.heap.get? T = some ob → vs.length = as.length → ks.map (·.1) = kw.map (·.1) → BindsTo s fd ⟨vs, ks⟩ (xs.zip (arr vs (ks.map (·.2)))))
    (hrep : ∀ (G : Led) (vs us : List Value), RepAll G vs as → RepAll G us (kw.map (·.2)) → RepAll G (arr vs us) qs)
    (h : ∀ (L : Addr) (env : Env), EnvOk env L fd.scope.names [] → ExecK D n env ((L, .frame (xs.zip qs)) :: W) [body] (.ret p ((L, .frame []) :: W'))) : CodeR D (n + 1) W (.ref a) as kw p W' :=
  CodeR.kD f a T xs arr e eT hb hc hok hbind hrep fun L env ok => ⟨_, ExecK.run (h L env ok), rfl, .cons _ (List.Sublist.refl _)⟩
theorem CallR.tl1 {q : Addr × MO} {fv : Value} {as : List PV} {kw : List (PySem.Str × PV)} {p : PV} (h : CallR D n W fv as kw p W') : CallR D n (q :: W) fv as kw p (q :: W') := h.tail [q]
theorem CallR.tl3 {q r t : Addr × MO} {fv : Value} {as : List PV} {kw : List (PySem.Str × PV)} {p : PV} (h : CallR D n W fv as kw p W') : CallR D n (q :: r :: t :: W) fv as kw p (q :: r :: t :: W') := h.tail [q, r, t]
end
end

section
open PySem PySem.W PyProof.Rows PySem.Calls PyProof.V
set_option maxHeartbeats 1000000
theorem look_no0 {α : Type} {x : PySem.Str} : List.lookup x ([] : List (PySem.Str × α)) = none := rfl
theorem look_no {α : Type} {σ : List (PySem.Str × α)} {x k : PySem.Str} {q : α} (hk : (x == k) = false) (h : σ.lookup x = none) : List.lookup x ((k, q) :: σ) = none := by
  simp only [List.lookup, hk]; exact h
section
variable {D : Wd}
theorem ioOk (f : D.Fit) : ClsOk (KK D) 725 := ⟨by kernel_rfl, by kernel_rfl, by kernel_rfl, by kernel_rfl, by kernel_rfl⟩
theorem shOk (f : D.Fit) : ClsOk (KK D) 860 := ⟨by kernel_rfl, by kernel_rfl, by kernel_rfl, by kernel_rfl, by kernel_rfl⟩
end
end
local macro_rules | `(tactic| walk_at $s) => lines s "cls: ioOk * | shOk *
no: look_no0 | look_no 1 2 ; 1 krfl 2 no
ev: EvalR.attr ( Wd.Fit.kin * ) 5 6 1 2 3 4 7 8 ; 1 name 2 get 3 get 4 look 5 cls 6 krfl 7 rfl 8 urfl
x: ExecK.setA ( Wd.Fit.kin * ) 6 7 1 2 3 4 5 8 9 0 ; 1 ev 2 name 3 get 4 wput 5 put 6 cls 7 krfl 8 ble 9 rfl
op: OpR.isNotT | OpR.isNotRN | OpR.isNone 21 ; 21 isn | OpR.isNotNone 21 ; 21 isn | OpR.eqsn | OpR.eqnn
truth: TruthR.deq
ev: EvalR.neg 1 ; 1 ev
con: CallR.int
e: @ as | @ rfl | @ asm | @ dec
all: AllR.andNil | AllR.orNil | AllR.andF ( TestR.is 1 2 ) ; 1 test 2 e | AllR.andT ( TestR.is 1 2 ) 3 ; 1 test 2 e 3 all | AllR.orT ( TestR.is 1 2 ) ; 1 test 2 e | AllR.orF ( TestR.is 1 2 ) 3 ; 1 test 2 e 3 all"
section
open PySem PySem.W PyProof.Rows PySem.Calls PyProof.V
set_option maxHeartbeats 1000000
section
variable {D : Wd} {n : Nat} {W W' W'' : Wld}
theorem index_spec (f : D.Fit) (x : PySem.Str) : CallR D (n + 1) W (.ref 191) [.int 1, .str x] [] (.int 1) W := by
  refine' CallR.kf f 191 ["n", "what"] ?e ?hb ?hc ?hok rfl (bind2 ?hbind) ?h
  case e => with_unfolding_all rfl
  case hb => rfl
  case hc => kernel_rfl
  case hok => kernel_rfl
  case hbind => intro v u; with_unfolding_all rfl
  case h =>
    intro L env ok
    dsimp only [List.zip_cons_cons, List.zip_nil_left] at ok ⊢
    refine' ExecK.run ?hh
    case hh =>
      walk_at "m.x"
      case k2 => intro h; exact absurd h (by decide)
      case k3 =>
        intro _
        walk_at "m.x"
        refine' ExecK.assign (EvalR.call ?a1 (ps := [.int 1]) ?a2 ?a3 CallR.int) ?s2 ?s4 ?s3
        case a1 => walk_at "m.glob"
        case a2 => walk_at "m.keep"
        case a3 => walk_at "m.evs"
        case s2 => walk_at "m.store"
        case s3 => rfl
        case s4 =>
          walk_at "m.x"
          case k2 => intro h; exact absurd h (by decide)
          case k3 =>
            intro _
            walk_at "m.x"
            walk_at "m.x"
@[reducible] noncomputable def ioA (buf : PySem.Str) (pos : Int) : Sg := [("_StringIO__newline", .str "\n"), ("_StringIO__buf", .str buf), ("_StringIO__pos", .int pos)]
theorem check_spec (f : D.Fit) {x d : Addr} (b : PySem.Str) (i : Int) : CodeR D (n + 1) ((x, .raw (instObj 725 d)) :: (d, .attrs (ioA b i)) :: W) (.ref 509) [.con (.ref x)] [] .none ((x, .raw (instObj 725 d)) :: (d, .attrs (ioA b i)) :: W) := by
  unfold ioA
  refine' CodeR.kN f 509 ["self"] ?e ?hb ?hc ?hok rfl (bind1 ?hbind) ?h
  case e => with_unfolding_all rfl
  case hb => rfl
  case hc => kernel_rfl
  case hok => kernel_rfl
  case hbind => intro v; with_unfolding_all rfl
  case h =>
    intro L env ok
    dsimp only [List.zip_cons_cons, List.zip_nil_left] at ok ⊢
    refine' Exists.intro _ ?hh
    case hh =>
      walk_at "m.x"
      case k2 => intro h; cases h
      case k3 =>
        intro _
        walk_at "m.x"
        walk_at "m.x"
        walk_at "m.x"
theorem translated_spec (f : D.Fit) {x d : Addr} (b z : PySem.Str) (i : Int) : CodeR D (n + 1) ((x, .raw (instObj 725 d)) :: (d, .attrs (ioA b i)) :: W) (.ref 502) [.con (.ref x), .str z] [] (.str z) ((x, .raw (instObj 725 d)) :: (d, .attrs (ioA b i)) :: W) := by
  unfold ioA
  refine' CodeR.kF f 502 ["self", "s"] ?e ?hb ?hc ?hok rfl (bind2 ?hbind) ?h
  case e => with_unfolding_all rfl
  case hb => rfl
  case hc => kernel_rfl
  case hok => kernel_rfl
  case hbind => intro v u; with_unfolding_all rfl
  case h =>
    intro L env ok
    dsimp only [List.zip_cons_cons, List.zip_nil_left] at ok ⊢
    refine' id ?hh
    case hh =>
      walk_at "m.x"
      walk_at "m.x"
      case k2 => intro h; cases h
      case k3 =>
        intro _
        walk_at "m.x"
        walk_at "m.x"
        case k2 => intro h; exact absurd h (by decide)
        case k3 =>
          intro _
          walk_at "m.x"
          walk_at "m.x"
theorem ioinit_spec (f : D.Fit) {x d : Addr} (z : PySem.Str) : CodeR D (n + 2) ((x, .raw (instObj 725 d)) :: (d, .attrs []) :: W) (.ref 495) [.con (.ref x), .str z] [] .none ((x, .raw (instObj 725 d)) :: (d, .attrs (ioA z 0)) :: W) := by
  refine' CodeR.kDN f 495 488 ["self", "initial_value", "newline"] (fun vs us => vs ++ [.str "\n" 968]) (qs := [.con (.ref x), .str z, .str "\n"]) ?e ?eT ?hb ?hc ?hok ?hbind ?hrep ?h
  case e => with_unfolding_all rfl
  case eT => with_unfolding_all rfl
  case hb => rfl
  case hc => kernel_rfl
  case hok => kernel_rfl
  case hbind =>
    intro s vs ks hT hl hk
    revert vs
    refine list_succ fun a vs hl => ?_
    revert vs
    refine list_one fun b => ?_
    · obtain rfl := List.map_eq_nil_iff.mp hk
      exact BindsTo.of_defaults rfl hT rfl rfl rfl
  case hrep =>
    intro G vs us r r2
    exact r.append (.cons (.str _ _) .nil)
  case h =>
    intro L env ok
    dsimp only [List.zip_cons_cons, List.zip_nil_left] at ok ⊢
    refine' Exists.intro _ ?hh
    case hh =>
      walk_at "m.x"
      case k2 => intro h; exact absurd h (by decide)
      case k3 =>
        intro _
        walk_at "m.x"
        refine' ExecK.ifF (TestR.boolop ?t1) ?t2
        case t1 => walk_at "m.all"
        case t2 =>
          walk_at "m.x"
          refine' ExecK.ifF (TestR.boolop ?u1) ?u2
          case u1 => walk_at "m.all"
          case u2 =>
            walk_at "m.x"
            walk_at "m.x"
            walk_at "m.x"
            walk_at "m.x"
            walk_at "m.x"
            case k3 => intro h; cases h
            case k2 =>
              intro _
              refine' ExecK.st (ExecS.setA f.kin (ioOk f) ?a1 (EvalR.methI f.kin (ioOk f) (fn := 502) ?b1 ?b2 ?b3 ?b4 ?b5 ?b6 ?b7 ?b8 ?b9 (CallR.tl1 (translated_spec (n := n) f _ z 0).call) ?b10 ?b11) ?a2 ?a3 ?a4 ?a5 ?a6 ?a7) ?a8
              case a1 => kernel_rfl
              case b1 => kernel_rfl
              case b2 => kernel_rfl
              case b3 => intro _; rfl
              case b4 => walk_at "m.name"
              case b5 => walk_at "m.get"
              case b6 => walk_at "m.get"
              case b7 => walk_at "m.no"
              case b8 => walk_at "m.keep"
              case b9 => walk_at "m.evs"
              case b10 => decide
              case b11 => rfl
              case a2 => walk_at "m.name"
              case a3 => walk_at "m.get"
              case a4 => walk_at "m.wput"
              case a5 => walk_at "m.put"
              case a6 => decide
              case a7 => rfl
              case a8 =>
                walk_at "m.x"
                walk_at "m.x"
                walk_at "m.x"
noncomputable def chA (b : PySem.Str) (i : Nat) : PySem.Str := Txt.slice b (some (i : Int)) (some ((i : Int) + 1))
theorem read_spec (f : D.Fit) {x d : Addr} (b : PySem.Str) (i : Nat) (hi : i < b.length) (hb : b.length ≤ 1000000) : CodeR D (n + 2) ((x, .raw (instObj 725 d)) :: (d, .attrs (ioA b i)) :: W) (.ref 671) [.con (.ref x), .int 1] [] (.str (chA b i)) ((x, .raw (instObj 725 d)) :: (d, .attrs (ioA b (i + 1 : Nat))) :: W) := by
  rw [show ((i + 1 : Nat) : Int) = (i : Int) + 1 from rfl]
  refine' CodeR.kDF f 671 664 ["self", "size"] (fun vs us => vs) (qs := [.con (.ref x), .int 1]) ?e ?eT ?hb ?hc ?hok ?hbind ?hrep ?h
  case e => with_unfolding_all rfl
  case eT => with_unfolding_all rfl
  case hb => rfl
  case hc => kernel_rfl
  case hok => kernel_rfl
  case hbind =>
    intro s vs ks hT hl hk
    revert vs
    refine list_succ fun a vs hl => ?_
    revert vs
    refine list_one fun b => ?_
    · obtain rfl := List.map_eq_nil_iff.mp hk
      exact BindsTo.of_defaults rfl hT rfl rfl rfl
  case hrep =>
    intro G vs us r r2
    exact r
  case h =>
    intro L env ok
    dsimp only [List.zip_cons_cons, List.zip_nil_left] at ok ⊢
    refine' id ?hh
    case hh =>
      walk_at "m.x"
      case k2 => intro h; cases h
      case k3 =>
        intro _
        walk_at "m.x"
        refine' ExecK.assign (EvalR.call ?a1 ?a2 ?a3 (index_spec (n := n) f _)) ?s2 ?s4 ?s3
        case a1 => walk_at "m.glob"
        case a2 => walk_at "m.keep"
        case a3 => walk_at "m.evs"
        case s2 => walk_at "m.store"
        case s3 => rfl
        case s4 =>
          refine' ExecK.expr ok (EvalR.methI f.kin (ioOk f) (fn := 509) ?b1 ?b2 ?b3 ?b4 ?b5 ?b6 ?b7 ?b8 ?b9 (CallR.tl1 (check_spec (n := n) f b i).call) ?b10 ?b11) ?a8 ?a7
          case b1 => kernel_rfl
          case b2 => kernel_rfl
          case b3 => intro _; rfl
          case b4 => walk_at "m.name"
          case b5 => walk_at "m.get"
          case b6 => walk_at "m.get"
          case b7 => walk_at "m.no"
          case b8 => walk_at "m.keep"
          case b9 => walk_at "m.evs"
          case b10 => decide
          case b11 => rfl
          case a7 => rfl
          case a8 =>
            have hb' : b.length ≤ 16777216 := by lia
            walk_at "m.x"
            walk_at "m.x"
            walk_at "m.x"
            case k2 => intro h; exfalso; have := of_decide_eq_true h; lia
            case k3 =>
              intro _
              walk_at "m.x"
              walk_at "m.x"
              case k2 =>
                intro h
                have h1 : (i : Int) + 1 < b.length := of_decide_eq_true (by simpa using h)
                walk_at "m.x"
                walk_at "m.x"
                walk_at "m.x"
                show ExecK _ _ _ _ _ (Out.ret (PV.str (Txt.slice b (some (i : Int)) (some ((i : Int) + 1)))) _)
                walk_at "m.x"
              case k3 =>
                intro h
                have h1 : (b.length : Int) = (i : Int) + 1 := by
                  have : ¬ ((i : Int) + 1 < b.length) := by simpa using h
                  lia
                walk_at "m.x"
                rw [h1]
                walk_at "m.x"
                show ExecK _ _ _ _ _ (Out.ret (PV.str (Txt.slice b (some (i : Int)) (some ((i : Int) + 1)))) _)
                walk_at "m.x"
theorem readEnd_spec (f : D.Fit) {x d : Addr} (b : PySem.Str) (i : Nat) (hi : b.length ≤ i) (hb : b.length ≤ 1000000) : CodeR D (n + 2) ((x, .raw (instObj 725 d)) :: (d, .attrs (ioA b i)) :: W) (.ref 671) [.con (.ref x), .int 1] [] (.str "") ((x, .raw (instObj 725 d)) :: (d, .attrs (ioA b i)) :: W) := by
  refine' CodeR.kDF f 671 664 ["self", "size"] (fun vs us => vs) (qs := [.con (.ref x), .int 1]) ?e ?eT ?hb ?hc ?hok ?hbind ?hrep ?h
  case e => with_unfolding_all rfl
  case eT => with_unfolding_all rfl
  case hb => rfl
  case hc => kernel_rfl
  case hok => kernel_rfl
  case hbind =>
    intro s vs ks hT hl hk
    revert vs
    refine list_succ fun a vs hl => ?_
    revert vs
    refine list_one fun b => ?_
    · obtain rfl := List.map_eq_nil_iff.mp hk
      exact BindsTo.of_defaults rfl hT rfl rfl rfl
  case hrep =>
    intro G vs us r r2
    exact r
  case h =>
    intro L env ok
    dsimp only [List.zip_cons_cons, List.zip_nil_left] at ok ⊢
    refine' id ?hh
    case hh =>
      walk_at "m.x"
      case k2 => intro h; cases h
      case k3 =>
        intro _
        walk_at "m.x"
        refine' ExecK.assign (EvalR.call ?a1 ?a2 ?a3 (index_spec (n := n) f _)) ?s2 ?s4 ?s3
        case a1 => walk_at "m.glob"
        case a2 => walk_at "m.keep"
        case a3 => walk_at "m.evs"
        case s2 => walk_at "m.store"
        case s3 => rfl
        case s4 =>
          refine' ExecK.expr ok (EvalR.methI f.kin (ioOk f) (fn := 509) ?b1 ?b2 ?b3 ?b4 ?b5 ?b6 ?b7 ?b8 ?b9 (CallR.tl1 (check_spec (n := n) f b i).call) ?b10 ?b11) ?a8 ?a7
          case b1 => kernel_rfl
          case b2 => kernel_rfl
          case b3 => intro _; rfl
          case b4 => walk_at "m.name"
          case b5 => walk_at "m.get"
          case b6 => walk_at "m.get"
          case b7 => walk_at "m.no"
          case b8 => walk_at "m.keep"
          case b9 => walk_at "m.evs"
          case b10 => decide
          case b11 => rfl
          case a7 => rfl
          case a8 =>
            have hb' : b.length ≤ 16777216 := by lia
            walk_at "m.x"
            walk_at "m.x"
            walk_at "m.x"
            case k3 => intro h; exfalso; have := of_decide_eq_false h; lia
            case k2 =>
              intro _
              walk_at "m.x"
end
end

section
open PySem PySem.W PyProof.Rows PySem.Calls PyProof.V
section
variable {D : Wd} {n : Nat} {env cenv : Env} {L C x d : Addr} {ns : Kinds} {cl : List (PySem.Str × Addr)} {W W' W₁ W₂ W₃ W₄ : Wld} {F G : Led} {s : Shared} {K : Frag} {σ σ' : Sg}
noncomputable def ExecP (D : Wd) (n : Nat) (env : Env) (W : Wld) (b : List Stmt) (P : Out → Prop) : Prop :=
  ∀ (A : Around) (F G : Led) (s : Shared) (Q : Flow → Shared → Prop) (E : Value → Shared → Prop), Room A n → Core D F G W s → (∀ o, P o → o.post D F G Q) → wpAny (model D.prog D.w) A (execs b env) Q E s
theorem ExecP.of {b : List Stmt} {o : Out} {P : Out → Prop} (h : ExecR D n env W b o) (hp : P o) : ExecP D n env W b P := fun A F G s Q E rm c k => h A F G s Q E rm c (k o hp)
theorem ExecP.perm {b : List Stmt} {P : Out → Prop} (h : W.Perm W') (hx : ExecP D n env W' b P) : ExecP D n env W b P := fun A F G s Q E rm c k => hx A F G s Q E rm (c.permW h) k
theorem ExecP.run {b : List Stmt} {P : Out → Prop} (h : ∃ o, P o ∧ ExecK D n env W [b] o) : ExecP D n env W b P := let ⟨_, hp, hx⟩ := h; ExecP.of (ExecK.run hx) hp
theorem ExecP.ifT {test : Expr} {body orelse rest : List Stmt} {pos : Pos} {P₁ P : Out → Prop} (ht : TestR D n env W test true W₁) (hb : ExecP D n env W₁ body P₁) (hr : ∀ o, P₁ o → ∃ W₂, o = .next W₂ ∧ ExecP D n env W₂ rest P) : ExecP D n env W (.If test body orelse pos :: rest) P := by
  intro A F G s Q E rm c k
  refine wpAny_execs_cons (wpAny_If (ht A F G s _ E rm c fun G₁ s₁ l₁ c₁ => ?_))
  refine hb A F G₁ s₁ _ E rm c₁ fun o ho => ?_
  obtain ⟨W₂, rfl, hx⟩ := hr o ho
  exact fun G₂ s₂ l₂ c₂ => hx A F G₂ s₂ Q E rm c₂ fun o' ho' => Out.post_le (l₁.trans l₂) (k o' ho')
noncomputable def CodeP (D : Wd) (n : Nat) (W : Wld) (f : Value) (as : List PV) (kw : List (PySem.Str × PV)) (P : PV → Wld → Prop) : Prop :=
  ∀ (A : Around) (F G : Led) (s : Shared) (vs : List Value) (ks : List (PySem.Str × Value)) (R : Result → Shared → Prop), Room A n → Core D F G W s → RepAll G vs as → ks.map (·.1) = kw.map (·.1) → RepAll G (ks.map (·.2)) (kw.map (·.2)) →
    (∀ p W' G' v s', P p W' → G.le G' → Core D F G' W' s' → Rep G' v p → R (.ok (.ret v)) s') → codeAny (model D.prog D.w) A (.call f ⟨vs, ks⟩) R s
theorem CodeP.defn {f : Addr} {fd : FuncData} {body : List Stmt} {as qs : List PV} {kw : List (PySem.Str × PV)} {P : PV → Wld → Prop} (o : D.Ok) (fa : FnAt D f fd body) (xs : List PySem.Str) (arr : List Value → List Value → List Value) (hnd : xs.Nodup)
    (hbind : ∀ (s : Shared) (vs : List Value) (ks : List (PySem.Str × Value)), (∀ a o, D.B.get? a = some o → s.heap.get? a = some o) → vs.length = as.length → ks.map (·.1) = kw.map (·.1) → BindsTo s fd ⟨vs, ks⟩ (xs.zip (arr vs (ks.map (·.2)))))
    (hrep : ∀ (G : Led) (vs us : List Value), RepAll G vs as → RepAll G us (kw.map (·.2)) → RepAll G (arr vs us) qs)
    (hcell : ∀ x ∈ fd.scope.names, x.2 ≠ .cell) (hloc : ∀ x ∈ xs, fd.scope.names.lookup x = some .local)
    (h : ∀ (L : Addr) (env : Env), EnvOk env L fd.scope.names [] → ExecP D n env ((L, .frame (xs.zip qs)) :: W) body fun o => ∃ p W', o.Ends p W' ∧ P p W') : CodeP D (n + 1) W (.ref f) as kw P := by
  intro A F G s vs ks R rm c ra hk rk k
  obtain ⟨ob, ho, hd⟩ := fa.ob
  have hr := hrep G vs (ks.map (·.2)) ra rk
  refine codeAny_call_def (binds := xs.zip (arr vs (ks.map (·.2)))) rm.d (c.keeps _ _ ho) hd (o.nolimit.keeps c.keeps) (fa.code.keeps c.keeps) fa.body (hbind s vs ks c.keeps ra.length hk) hcell ?_ (fun h₁ hns hkp => ?_) fa.co fa.gen fa.kind
  · intro x hx
    exact hloc _ (List.of_mem_zip (a := x.1) (b := x.2) hx).1
  · have eo : EnvOk (callEnv fd s.heap.objs.size f) s.heap.objs.size fd.scope.names [] := ⟨fa.kind, fun _ => rfl, rfl, fa.glob, fa.blt, fa.clos⟩
    have hx := h s.heap.objs.size _ eo
    have c₁ : Core D F G ((s.heap.objs.size, .frame (xs.zip qs)) :: W) { s with heap := h₁, toks := s.toks + (xs.zip (arr vs (ks.map (·.2)))).length } := c.new (Nat.le_refl _) hkp ⟨_, hns, zip_lookup xs _ _ hr hnd⟩
    refine wpAny_mono (hx _ F G _ (fun fl s' => ∃ v G' p W', (fl = .ret v ∨ (fl = .next ∧ v = .none)) ∧ P p W' ∧ G.le G' ∧ Core D F G' W' s' ∧ Rep G' v p) (fun _ _ => False) rm.deeper c₁ ?_) (fun fl s' hq => ?_) fun _ _ e => e.elim
    · rintro out ⟨p, W', he, hp⟩
      cases out with
      | next W₁ =>
        obtain ⟨rfl, hs⟩ := he
        exact fun G' s' l c' => ⟨.none, G', _, W', .inr ⟨rfl, rfl⟩, hp, l, c'.sub hs, .none⟩
      | ret q W₁ =>
        obtain ⟨rfl, hs⟩ := he
        exact fun G' v s' l c' rv => ⟨v, G', _, W', .inl rfl, hp, l, c'.sub hs, rv⟩
      | brk W₁ => exact he.elim
      | cont W₁ => exact he.elim
    · obtain ⟨v, G', p, W', e, hp, l, c', rv⟩ := hq
      rcases e with rfl | ⟨rfl, rfl⟩
      · exact k p W' G' v s' hp l c' rv
      · exact k p W' G' .none s' hp l c' rv
noncomputable def MakeP (D : Wd) (n : Nat) (W : Wld) (C : Addr) (as : List PV) (kw : List (PySem.Str × PV)) (P : Addr → Wld → Prop) : Prop :=
  ∀ (A : Around) (F G : Led) (s : Shared) (vs : List Value) (ks : List (PySem.Str × Value)) (Q : Value → Shared → Prop) (E : Value → Shared → Prop), Room A n → Core D F G W s → RepAll G vs as → ks.map (·.1) = kw.map (·.1) → RepAll G (ks.map (·.2)) (kw.map (·.2)) →
    (∀ x W' G' s', P x W' → G.le G' → Core D F G' W' s' → Q (.ref x) s') → wpAny (model D.prog D.w) A (PySem.call (.ref C) vs ks) Q E s
theorem makeP {as : List PV} {kw : List (PySem.Str × PV)} {fI : Addr} {P : Addr → Wld → Prop} (X : K.In D.B) (hm : makesIn K C = true) (hi : findIn K (.ref C) "__init__" = some (some (.ref fI))) (hf : typeIn K (.ref fI) = some (.type "function"))
    (hI : ∀ x d, CodeP D n ((x, .raw (instObj C d)) :: (d, .attrs []) :: W) (.ref fI) (.con (.ref x) :: as) kw fun p W' => p = .none ∧ P x W') : MakeP D (n + 1) W C as kw P := by
  intro A F G s vs ks Q E rm c ra hk rk k
  obtain ⟨hh, g, dr, t, os⟩ := s
  refine wpAny_call ?_
  have X' : K.In hh := X.keeps c.keeps
  refine make_core (makes_of X' hm) (looks_findIn X' hi) (fun self => bind_fn X' self hf) (.inl rfl) ?_
  have e1 : (hh.push emptyDict).objs.size = hh.objs.size + 1 := Heap.size_push ..
  have c₁ : Core D F G ((hh.objs.size, .attrs []) :: W) { (⟨hh, g, dr, t, os⟩ : Shared) with heap := hh.push emptyDict, toks := t } :=
    c.new (t := t) (Nat.le_refl _) (fun _ _ e => Heap.get?_push_of_some _ e) ⟨fun _ => none, Heap.Ns1.of_empty ⟨_, #[], _, Heap.get?_push_size _ rfl, rfl, fun e he => absurd he (by simp), fun _ => rfl⟩, fun y p e => by simp at e, fun _ _ => rfl⟩
  have c₂ := c₁.newRaw (instObj C hh.objs.size) rfl
  have c₃ : Core D F G ((hh.objs.size + 1, .raw (instObj C hh.objs.size)) :: (hh.objs.size, .attrs []) :: W) ⟨(hh.push emptyDict).push (instObj C hh.objs.size), g, dr, t, os⟩ := by
    have := c₂
    simp only [e1] at this
    exact this
  refine hI (hh.objs.size + 1) hh.objs.size _ F G _ (.ref (hh.objs.size + 1) :: vs) ks _ (tcallRoom rm) c₃ (.cons (.con _) ra) hk rk fun p W' G' v s' hp l c' r => ?_
  obtain ⟨rfl, hp⟩ := hp
  obtain rfl := r.none_v
  exact ⟨rfl, k _ W' G' s' hp l c'⟩
theorem makeNewP {p fN fI : Addr} {a : PV} {Wo : Addr → Addr → Wld} {oc : Value} {od : Option Addr} {cd : ClassData} {sl : Array (Option Value)} (X : K.In D.B) (hC : D.B.get? C = some ⟨oc, od, .cls cd, sl⟩) (e4 : cd.mro.isEmpty = false)
    (made : Looks (model D.prog D.w) D.B (Bind.madeBy (.ref C)) none) (Y : NewFacts K C p fN fI)
    (hN : ∀ (A : Around) (F G : Led) (s : Shared) (u : Value) (Q : Value → Shared → Prop) (E : Value → Shared → Prop), Room A n → Core D F G W s → NewQ D F G C W (fun x s' => Q (.ref x) s') → wpAny (model D.prog D.w) A (PySem.call (.ref fN) [.ref C, u]) Q E s)
    (hI : ∀ x d, CodeR D n ((x, .raw (instObj C d)) :: (d, .attrs []) :: W) (.ref fI) [.con (.ref x), a] [] .none (Wo x d)) : MakeP D (n + 1) W C [a] [] fun x W' => ∃ d, W' = Wo x d :=
  fun A F G s vs ks Q E rm c ra hk rk k => makeNewR X hC e4 made Y hN hI A F G s vs ks Q E rm c ra hk rk fun x d G' s' l c' => k x _ G' s' ⟨d, rfl⟩ l c'
theorem ExecP.ownNew {y id : PySem.Str} {e₁ : Expr} {args : List Expr} {kws : List Keyword} {ps : List PV} {kw : List (PySem.Str × PV)} {p pos' pos cpos : Pos} {rest : List Stmt} {P : Out → Prop} {PW : Addr → Wld → Prop} {cd : ClassData} {oc : Value} {od : Option Addr} {sl : Array (Option Value)}
    (X : K.In D.B) (hK : K.lookup C = some ⟨oc, od, .cls cd, sl⟩) (hcall : specialIn K (.ref C) "__call__" = some (some (.builtin "type.__call__")))
    (hn : EvalR D n env W (.Name id p) (.con (.ref C)) W₁) (ha : EvalsR D n env W₁ (e₁ :: args) ps W₂) (hk : KwsR D n env W₂ kws kw W₃) (hmake : MakeP D n W₃ C ps kw PW)
    (hr : ∀ x W₄, PW x W₄ → ∃ W₅, StoreR D env W₄ y (.con (.ref x)) W₅ ∧ ExecP D n env W₅ rest P)
    (hsw : swapsWith (.Call (.Name id p) (e₁ :: args) kws cpos) (some (.Name y pos')) pos.line env = pure false := by rfl) : ExecP D n env W (.Assign [.Name y pos'] (.Call (.Name id p) (e₁ :: args) kws cpos) pos :: rest) P := by
  intro A F G s Q E rm c k
  refine wpAny_execs_cons (wpAny_Assign_Name (wpAny_Call_Name_kw (hn A F G s _ E rm c fun G₁ fv s₁ l₁ c₁ rf => ?_)) hsw)
  obtain rfl := Rep.con_v rf
  obtain ⟨k1, k2, k3⟩ := hk.facts cpos
  have hs1 : backTo cpos (starEach (e₁ :: args) env) = (false, eval e₁ env) :: backTo cpos (starEach args env) := by
    cases ha with
    | cons he _ _ => rw [he]; rfl
  refine callWith_class (ha.noStar (pos := cpos)).1 k2 hK hcall ?_
  rw [hs1]
  refine evalArgs_kw k1 ?_
  rw [← hs1]
  refine ha.wp A F G₁ s₁ _ E rm c₁ fun G₂ vs s₂ l₂ c₂ rs => hk.wp A F G₂ s₂ _ E rm c₂ fun G₃ us s₃ l₃ c₃ ru => ⟨X.keeps c₃.keeps, ?_⟩
  have hul : us.length = kw.length := by rw [ru.length, List.length_map]
  refine hmake A F G₃ s₃ vs _ _ E rm c₃ (rs.mono l₃) ?_ ?_ fun x W₄ G₄ s₄ hp l₄ c₄ => ?_
  · rw [k3, List.map_fst_zip (by rw [List.length_map, hul]; exact Nat.le_refl _)]
  · rw [k3, List.map_snd_zip (by rw [List.length_map, hul]; exact Nat.le_refl _)]; exact ru
  · obtain ⟨W₅, hst, hx⟩ := hr x W₄ hp
    refine hst A F G₄ s₄ (.ref x) _ E c₄ (.con _) fun s₅ c₅ => ?_
    exact hx A F G₄ s₅ Q E rm c₅ fun o ho => Out.post_le (((l₁.trans l₂).trans l₃).trans l₄) (k o ho)
end
end

section
open PySem PySem.W PyProof.Rows PySem.Calls PyProof.V
set_option maxHeartbeats 1000000
section
variable {D : Wd} {n : Nat} {env : Env} {L : Addr} {ns : Kinds} {cl : List (PySem.Str × Addr)} {W W' W'' : Wld}
theorem n_BytesIO (f : D.Fit) (ok : EnvOk env L ns cl) (hk : List.lookup (PySem.Str.ofString "BytesIO") ns = some .globalImplicit) {pos : Pos} : EvalR D n env W (.Name "BytesIO" pos) (.con (.ref 478)) W := EvalR.glob f.toOk ok hk (f.glob (by kernel_rfl))
theorem ioClasses (f : D.Fit) : IOClasses D.B := ⟨⟨_, _, _, _, _, f.kin _ _ (by with_unfolding_all rfl)⟩, ⟨_, _, _, _, _, f.kin _ _ (by with_unfolding_all rfl)⟩, ⟨_, _, _, _, _, f.kin _ _ (by with_unfolding_all rfl)⟩⟩
theorem newFacts (f : D.Fit) : NewFacts (KK D) 725 222 218 495 := ⟨by kernel_rfl, by kernel_rfl, by kernel_rfl, by kernel_rfl, by kernel_rfl, by kernel_rfl, by kernel_rfl, by kernel_rfl⟩
theorem bytesIO_at (f : D.Fit) : ∃ oc od cd sl, D.B.get? 478 = some ⟨oc, od, .cls cd, sl⟩ := ⟨_, _, _, _, f.kin _ _ (by with_unfolding_all rfl)⟩
theorem callNewK (f : D.Fit) {a : Addr} {C : Addr} {c : Value} {d : Option Addr} {fd : FuncData} {sl : Array (Option Value)} {body : List Stmt} {x₁ x₂ x₃ : PySem.Str} (e : (KK D).lookup a = some ⟨c, d, .func fd, sl⟩) (hb : fd.body = .stmts body) (hc : codeIn (KK D) fd.code fd.qualname = true) (hok : fdOk fd [x₁, x₂, x₃] = true)
    (hbind : ∀ v u, bindArgs fd ⟨[v, u], []⟩ = (newTuple [u] >>= fun t => alloc emptyDict >>= fun k => pure [(x₁, v), (x₂, t), (x₃, .ref k)]))
    (h : ∀ (L : Addr) (env : Env) (t k : Value), EnvOk env L fd.scope.names [] → ∀ (A : Around) (F G : Led) (s : Shared) (Q : Flow → Shared → Prop) (E : Value → Shared → Prop), Room A n → Core D F G ((L, .frame [(x₁, .con (.ref C)), (x₂, .con t), (x₃, .con k)]) :: W) s →
      NewQ D F G C ((L, .frame [(x₁, .con (.ref C)), (x₂, .con t), (x₃, .con k)]) :: W) (fun x s' => Q (.ret (.ref x)) s') → wpAny (model D.prog D.w) A (execs body env) Q E s)
    (A : Around) (F G : Led) (s : Shared) (u : Value) (Q : Value → Shared → Prop) (E : Value → Shared → Prop) (rm : Room A (n + 1)) (c : Core D F G W s) (k : NewQ D F G C W (fun x s' => Q (.ref x) s')) :
    wpAny (model D.prog D.w) A (PySem.call (.ref a) [.ref C, u]) Q E s := by
  obtain ⟨a1, a2, a3, a4, a5, a6, a7, a8, a9⟩ := fdOk_facts hok
  exact callNew f.toOk (f.fn e hb hc a1 a2 a3 a4 a5 a6) a9 a7 a8 hbind h A F G s u Q E rm c k
theorem newIO_spec (f : D.Fit) (A : Around) (F G : Led) (s : Shared) (u : Value) (Q : Value → Shared → Prop) (E : Value → Shared → Prop) (rm : Room A (n + 1)) (c : Core D F G W s) (k : NewQ D F G 725 W (fun x s' => Q (.ref x) s')) :
    wpAny (model D.prog D.w) A (PySem.call (.ref 218) [.ref 725, u]) Q E s := by
  obtain ⟨oc, od, cd, sl, hB⟩ := bytesIO_at f
  obtain ⟨⟨_, _, _, _, _, hS⟩, _, _⟩ := ioClasses f
  refine' callNewK (n := n) (x₁ := "cls") (x₂ := "args") (x₃ := "kwargs") f ?e ?hb ?hc ?hok ?hbind ?h A F G s u Q E rm c k
  case e => with_unfolding_all rfl
  case hb => rfl
  case hc => kernel_rfl
  case hok => kernel_rfl
  case hbind => intro v u; with_unfolding_all rfl
  case h =>
    intro L env t k' ok A F G s Q E rm c k
    refine' ExecS.go (ExecS.if (b := false) (TestR.boolop (AllR.andT (TestR.cmp ?a1 ?a2 (OpR.isNotCls ?a3 hS hB) ?a4) (AllR.andF (TestR.cmp ?b1 ?b2 OpR.isNotSame ?b4)))) (fun h => nomatch h) (fun _ => ExecR.nil)) rm c fun G₁ s₁ l₁ c₁ => ?_
    case a1 => walk_at "m.name"
    case a2 => exact n_BytesIO f ok (by kernel_rfl)
    case a3 => decide
    case a4 => with_unfolding_all rfl
    case b1 => walk_at "m.name"
    case b2 => walk_at "m.name"
    case b4 => with_unfolding_all rfl
    refine' wpAny_execs_cons (wpAny_Return_some (evalNew f.kin (ioClasses f) ?c1 ?c2 ?c3 ?c4 A F G₁ s₁ _ E rm c₁ fun x d G₂ s₂ l₂ c₂ => ?_))
    case c1 => intro _; rfl
    case c2 => walk_at "m.name"
    case c3 => walk_at "m.evs"
    case c4 => rfl
    exact k x d G₂ s₂ (l₁.trans l₂) c₂
theorem makeIO (f : D.Fit) (z : PySem.Str) : MakeP D (n + 3) W 725 [.str z] [] fun x W' => ∃ d, W' = (x, .raw (instObj 725 d)) :: (d, .attrs (ioA z 0)) :: W := by
  obtain ⟨⟨_, _, _, _, _, hS⟩, _, _⟩ := ioClasses f
  exact makeNewP f.kin hS (by rfl) (looks_madeBy_725 (ioClasses f)) (newFacts f) (fun A F G s u Q E rm c k => newIO_spec (n := n + 1) f A F G s u Q E rm c k) fun x d => ioinit_spec (n := n) f z
end
end

local macro_rules | `(tactic| walk_at $s) => lines s "con: CallR.deque
x: ExecK.augA ( Wd.Fit.kin * ) 6 7 8 1 2 3 4 5 9 10 11 12 13 0 ; 1 name 2 get 3 get 4 look 5 ev 6 cls 7 krfl 8 krfl 9 op 10 wput 11 put 12 ble 13 rfl"
section
open PySem PySem.W PyProof.Rows PySem.Calls PyProof.V
set_option maxHeartbeats 1000000
section
variable {D : Wd} {n : Nat} {env : Env} {L : Addr} {ns : Kinds} {cl : List (PySem.Str × Addr)} {W W' W'' : Wld}
theorem CodeP.kD (f : D.Fit) (a T : Addr) {c : Value} {d : Option Addr} {fd : FuncData} {sl : Array (Option Value)} {body : List Stmt} {as qs : List PV} {kw : List (PySem.Str × PV)} {P : PV → Wld → Prop} {ob : Obj} (xs : List PySem.Str) (arr : List Value → List Value → List Value)
    (e : (KK D).lookup a = some ⟨c, d, .func fd, sl⟩) (eT : (KK D).lookup T = some ob) (hb : fd.body = .stmts body) (hc : codeIn (KK D) fd.code fd.qualname = true) (hok : fdOk fd xs = true)
    (hbind : ∀ (s : Shared) (vs : List Value) (ks : List (PySem.Str × Value)), s.heap.get? T = some ob → vs.length = as.length → ks.map (·.1) = kw.map (·.1) → BindsTo s fd ⟨vs, ks⟩ (xs.zip (arr vs (ks.map (·.2)))))
    (hrep : ∀ (G : Led) (vs us : List Value), RepAll G vs as → RepAll G us (kw.map (·.2)) → RepAll G (arr vs us) qs)
    (h : ∀ (L : Addr) (env : Env), EnvOk env L fd.scope.names [] → ExecP D n env ((L, .frame (xs.zip qs)) :: W) body fun o => ∃ p W', o.Ends p W' ∧ P p W') : CodeP D (n + 1) W (.ref a) as kw P := by
  obtain ⟨a1, a2, a3, a4, a5, a6, a7, a8, a9⟩ := fdOk_facts hok
  exact CodeP.defn (qs := qs) f.toOk (f.fn e hb hc a1 a2 a3 a4 a5 a6) xs arr a9 (fun s vs ks k hl hk => hbind s vs ks (k _ _ (f.kin _ _ eT)) hl hk) hrep a7 a8 h
@[reducible] noncomputable def wordC : PySem.Str := "abcdfeghijklmnopqrstuvwxyzABCDEFGHIJKLMNOPQRSTUVWXYZ0123456789_" ++ "ßàáâãäåæçèéêëìíîïðñòóôõöøùúûüýþÿÀÁÂÃÄÅÆÇÈÉÊËÌÍÎÏÐÑÒÓÔÕÖØÙÚÛÜÝÞ"
@[reducible] noncomputable def shA (io : Addr) (co : PySem.Str) (sp : Bool) (st : PV) (tk : PySem.Str) : Sg :=
  [("instream", .con (.ref io)), ("infile", .none), ("posix", .bool true), ("eof", .none), ("commenters", .str co), ("wordchars", .str wordC), ("whitespace", .str " \t\r\n"), ("whitespace_split", .bool sp), ("quotes", .str "'\""), ("escape", .str "\\"), ("escapedquotes", .str "\""),
    ("state", st), ("pushback", .deq), ("lineno", .int 1), ("debug", .int 0), ("token", .str tk), ("filestack", .deq), ("source", .none), ("_punctuation_chars", .str "")]
section
variable {io : Addr} {co tk : PySem.Str} {sp : Bool} {st : PV}
theorem sh_posix : (shA io co sp st tk).lookup ("posix" : PySem.Str) = some (.bool true) := by kernel_rfl
theorem sh_eof : (shA io co sp st tk).lookup ("eof" : PySem.Str) = some (.none) := by kernel_rfl
theorem sh_commenters : (shA io co sp st tk).lookup ("commenters" : PySem.Str) = some (.str co) := by kernel_rfl
theorem sh_wordchars : (shA io co sp st tk).lookup ("wordchars" : PySem.Str) = some (.str wordC) := by kernel_rfl
theorem sh_whitespace : (shA io co sp st tk).lookup ("whitespace" : PySem.Str) = some (.str " \t\r\n") := by kernel_rfl
theorem sh_whitespace_split : (shA io co sp st tk).lookup ("whitespace_split" : PySem.Str) = some (.bool sp) := by kernel_rfl
theorem sh_quotes : (shA io co sp st tk).lookup ("quotes" : PySem.Str) = some (.str "'\"") := by kernel_rfl
theorem sh_escape : (shA io co sp st tk).lookup ("escape" : PySem.Str) = some (.str "\\") := by kernel_rfl
theorem sh_escapedquotes : (shA io co sp st tk).lookup ("escapedquotes" : PySem.Str) = some (.str "\"") := by kernel_rfl
theorem sh_state : (shA io co sp st tk).lookup ("state" : PySem.Str) = some (st) := by kernel_rfl
theorem sh_pushback : (shA io co sp st tk).lookup ("pushback" : PySem.Str) = some (.deq) := by kernel_rfl
theorem sh_lineno : (shA io co sp st tk).lookup ("lineno" : PySem.Str) = some (.int 1) := by kernel_rfl
theorem sh_debug : (shA io co sp st tk).lookup ("debug" : PySem.Str) = some (.int 0) := by kernel_rfl
theorem sh_token : (shA io co sp st tk).lookup ("token" : PySem.Str) = some (.str tk) := by kernel_rfl
theorem shp_state {st' : PV} : Put (shA io co sp st tk) "state" st' (shA io co sp st' tk) := .there (by kernel_rfl) (.there (by kernel_rfl) (.there (by kernel_rfl) (.there (by kernel_rfl) (.there (by kernel_rfl) (.there (by kernel_rfl) (.there (by kernel_rfl) (.there (by kernel_rfl) (.there (by kernel_rfl) (.there (by kernel_rfl) (.there (by kernel_rfl) (.here)))))))))))
theorem shp_token {tk' : PySem.Str} : Put (shA io co sp st tk) "token" (.str tk') (shA io co sp st tk') := .there (by kernel_rfl) (.there (by kernel_rfl) (.there (by kernel_rfl) (.there (by kernel_rfl) (.there (by kernel_rfl) (.there (by kernel_rfl) (.there (by kernel_rfl) (.there (by kernel_rfl) (.there (by kernel_rfl) (.there (by kernel_rfl) (.there (by kernel_rfl) (.there (by kernel_rfl) (.there (by kernel_rfl) (.there (by kernel_rfl) (.there (by kernel_rfl) (.here)))))))))))))))
end
theorem shlexinit_spec (f : D.Fit) {x d : Addr} (z : PySem.Str) : CodeP D (n + 4) ((x, .raw (instObj 860 d)) :: (d, .attrs []) :: W) (.ref 784) [.con (.ref x), .str z] [("posix", .bool true)]
    fun p W' => p = .none ∧ ∃ io di, W' = (x, .raw (instObj 860 d)) :: (d, .attrs (shA io "#" false (.str " ") "")) :: (io, .raw (instObj 725 di)) :: (di, .attrs (ioA z 0)) :: W := by
  refine' CodeP.kD f 784 777 ["self", "instream", "infile", "posix", "punctuation_chars"] (fun vs us => vs ++ [.none] ++ us ++ [.bool false]) (qs := [.con (.ref x), .str z, .none, .bool true, .bool false]) ?e ?eT ?hb ?hc ?hok ?hbind ?hrep ?h
  case e => with_unfolding_all rfl
  case eT => with_unfolding_all rfl
  case hb => rfl
  case hc => kernel_rfl
  case hok => kernel_rfl
  case hbind =>
    intro s vs ks hT hl hk
    revert vs
    refine list_succ fun a vs hl => ?_
    revert vs
    refine list_one fun b => ?_
    revert ks
    refine kw_one fun u => ?_
    exact BindsTo.of_defaults rfl hT rfl rfl rfl
  case hrep =>
    intro G vs us r r2
    exact (((r.append (.cons .none .nil)).append r2).append (.cons (.bool _) .nil))
  case h =>
    intro L env ok
    dsimp only [List.zip_cons_cons, List.zip_nil_left] at ok ⊢
    have f0 : D.B.get? 725 ≠ none := by
      obtain ⟨⟨_, _, _, _, _, hS⟩, _, _⟩ := ioClasses f
      rw [hS]; exact fun h => nomatch h
    refine' ExecP.ifT ?t1 (ExecP.ownNew (P := fun o => ∃ io di, o = .next ((io, .raw (instObj 725 di)) :: (di, .attrs (ioA z 0)) :: (L, .frame [("self", .con (.ref x)), ("instream", .con (.ref io)), ("infile", .none), ("posix", .bool true), ("punctuation_chars", .bool false)]) :: (x, .raw (instObj 860 d)) :: (d, .attrs []) :: W)) f.kin ?b1 ?b2 ?b3 ?b4 KwsR.nil (makeIO (n := n) f z) ?b5 ?b6) ?r1
    case t1 => walk_at "m.test"
    case b1 => with_unfolding_all rfl
    case b2 => kernel_rfl
    case b3 => walk_at "m.glob"
    case b4 => walk_at "m.evs"
    case b6 => rfl
    case b5 =>
      rintro io W₄ ⟨di, rfl⟩
      refine' ⟨_, ?s1, ExecP.of ExecR.nil ⟨io, di, rfl⟩⟩
      case s1 => walk_at "m.store"
    case r1 =>
      rintro o ⟨io, di, rfl⟩
      refine' ⟨_, rfl, ExecP.perm (W' := (L, .frame [("self", .con (.ref x)), ("instream", .con (.ref io)), ("infile", .none), ("posix", .bool true), ("punctuation_chars", .bool false)]) :: (x, .raw (instObj 860 d)) :: (d, .attrs []) :: (io, .raw (instObj 725 di)) :: (di, .attrs (ioA z 0)) :: W) ?p1 (ExecP.run ?p2)⟩
      case p1 => exact List.Perm.append_right W (List.perm_append_comm (l₁ := [(io, MO.raw (instObj 725 di)), (di, MO.attrs (ioA z 0))]) (l₂ := [(L, MO.frame [("self", .con (.ref x)), ("instream", .con (.ref io)), ("infile", .none), ("posix", .bool true), ("punctuation_chars", .bool false)]), (x, MO.raw (instObj 860 d)), (d, MO.attrs [])]))
      case p2 =>
        refine' Exists.intro (Out.next ((L, .frame [("self", .con (.ref x)), ("instream", .con (.ref io)), ("infile", .none), ("posix", .bool true), ("punctuation_chars", .str "")]) :: (x, .raw (instObj 860 d)) :: (d, .attrs (shA io "#" false (.str " ") "")) :: (io, .raw (instObj 725 di)) :: (di, .attrs (ioA z 0)) :: W)) (And.intro ⟨.none, _, ⟨rfl, List.Sublist.cons _ (List.Sublist.refl _)⟩, rfl, io, di, rfl⟩ ?x)
        case x =>
          walk_at "m.x"
          case k3 => intro h; cases h
          case k2 =>
            intro _
            walk_at "m.x"
            walk_at "m.x"
            walk_at "m.x"
            walk_at "m.x"
            walk_at "m.x"
            case k3 => intro h; cases h
            case k2 =>
              intro _
              walk_at "m.x"
              walk_at "m.x"
              walk_at "m.x"
              walk_at "m.x"
              walk_at "m.x"
              case k3 => intro h; cases h
              case k2 =>
                intro _
                walk_at "m.x"
                walk_at "m.x"
                iterate 13 (walk_at "m.x")
                case k3 => intro h; cases h
                case k2 =>
                  intro _
                  walk_at "m.x"
                  walk_at "m.x"
                  walk_at "m.x"
                  walk_at "m.x"
                  case k2 => intro h; exact absurd h (by decide)
                  case k3 =>
                    intro _
                    walk_at "m.x"
                    walk_at "m.x"
                    walk_at "m.x"
end
end

section
open PySem PySem.W PyProof.Rows PySem.Calls PyProof.V
set_option maxHeartbeats 1000000
section
variable {D : Wd} {n : Nat} {env : Env} {L x d io di : Addr} {ns : Kinds} {cl : List (PySem.Str × Addr)} {W W' W'' : Wld}
theorem CodeR.tl1 {q : Addr × MO} {fv : Value} {as : List PV} {kw : List (PySem.Str × PV)} {p : PV} (h : CodeR D n W fv as kw p W') : CodeR D n (q :: W) fv as kw p (q :: W') := h.tail [q]
theorem punct_spec (f : D.Fit) {co tk : PySem.Str} {sp : Bool} {st : PV} : CodeR D (n + 1) ((x, .raw (instObj 860 d)) :: (d, .attrs (shA io co sp st tk)) :: W) (.ref 791) [.con (.ref x)] [] (.str "") ((x, .raw (instObj 860 d)) :: (d, .attrs (shA io co sp st tk)) :: W) := by
  refine' CodeR.kF f 791 ["self"] ?e ?hb ?hc ?hok rfl (bind1 ?hbind) ?h
  case e => with_unfolding_all rfl
  case hb => rfl
  case hc => kernel_rfl
  case hok => kernel_rfl
  case hbind => intro v; with_unfolding_all rfl
  case h =>
    intro L env ok
    dsimp only [List.zip_cons_cons, List.zip_nil_left] at ok ⊢
    refine' id ?hh
    case hh =>
      walk_at "m.x"
theorem punctE (f : D.Fit) {o : Expr} {pos : Pos} {co tk : PySem.Str} {sp : Bool} {st : PV} {q : Addr × MO} {W₀ : Wld} (ho : EvalR D (n + 2) env W₀ o (.con (.ref x)) (q :: (x, .raw (instObj 860 d)) :: (d, .attrs (shA io co sp st tk)) :: W))
    (he : eval (.Attribute o "punctuation_chars" pos) env = (do
      let ov ← eval o env
      standAt pos.atName
      let r ← holding [ov] (getAttr ov "punctuation_chars" true)
      letTemporaryGo o ov r
      pure r)) : EvalR D (n + 2) env W₀ (.Attribute o "punctuation_chars" pos) (.str "") (q :: (x, .raw (instObj 860 d)) :: (d, .attrs (shA io co sp st tk)) :: W) := by
  refine' EvalR.prop f.kin (shOk f) (pr := 792) (fget := 791) ?b1 ?b2 ?b3 ?b4 ho ?b6 ?b7 (CodeR.tl1 (punct_spec (n := n) f)) ?b9 ?b10 he
  case b1 => kernel_rfl
  case b2 => kernel_rfl
  case b3 => kernel_rfl
  case b4 => with_unfolding_all rfl
  case b6 => walk_at "m.get"
  case b7 => walk_at "m.get"
  case b9 => lia
  case b10 => rfl
@[reducible] noncomputable def rdW (x d io di : Addr) (z : PySem.Str) (st : PV) (tk : PySem.Str) (i : Nat) (W : Wld) : Wld :=
  (x, .raw (instObj 860 d)) :: (d, .attrs (shA io "" true st tk)) :: (io, .raw (instObj 725 di)) :: (di, .attrs (ioA z i)) :: W
@[reducible] noncomputable def rdF (L x : Addr) (q : Bool) : Addr × MO := (L, .frame [("self", .con (.ref x)), ("quoted", .bool q), ("escapedstate", .str " ")])
theorem readE (f : D.Fit) {o e : Expr} {apos pos : Pos} {z tk : PySem.Str} {st : PV} {i : Nat} {q : Addr × MO} {W₀ : Wld} (ho : EvalR D (n + 2) env W₀ o (.con (.ref io)) (q :: rdW x d io di z st tk i W)) (ha : EvalsR D (n + 2) env (q :: rdW x d io di z st tk i W) [e] [.int 1] (q :: rdW x d io di z st tk i W)) (hi : i < z.length) (hz : z.length ≤ 1000000)
    (hbase : ∀ t, attributeBase o "read" env t = t) (hline : (apos.endLine == pos.line) = true) : EvalR D (n + 2) env W₀ (.Call (.Attribute o "read" apos) [e] [] pos) (.str (chA z i)) (q :: rdW x d io di z st tk (i + 1) W) := by
  refine' EvalR.methI f.kin (ioOk f) (fn := 671) ?b1 ?b2 hbase ho ?b5 ?b6 ?b7 ?b8 ha (CallR.tl3 (read_spec (n := n) f z i hi hz).call) (show 1 < 30 from Nat.le_of_ble_eq_true rfl) hline
  case b1 => kernel_rfl
  case b2 => kernel_rfl
  case b5 => walk_at "m.get"
  case b6 => walk_at "m.get"
  case b7 => walk_at "m.no"
  case b8 => walk_at "m.keep"
theorem readEndE (f : D.Fit) {o e : Expr} {apos pos : Pos} {z tk : PySem.Str} {st : PV} {i : Nat} {q : Addr × MO} {W₀ : Wld} (ho : EvalR D (n + 2) env W₀ o (.con (.ref io)) (q :: rdW x d io di z st tk i W)) (ha : EvalsR D (n + 2) env (q :: rdW x d io di z st tk i W) [e] [.int 1] (q :: rdW x d io di z st tk i W)) (hi : z.length ≤ i) (hz : z.length ≤ 1000000)
    (hbase : ∀ t, attributeBase o "read" env t = t) (hline : (apos.endLine == pos.line) = true) : EvalR D (n + 2) env W₀ (.Call (.Attribute o "read" apos) [e] [] pos) (.str "") (q :: rdW x d io di z st tk i W) := by
  refine' EvalR.methI f.kin (ioOk f) (fn := 671) ?b1 ?b2 hbase ho ?b5 ?b6 ?b7 ?b8 ha (CallR.tl3 (readEnd_spec (n := n) f z i hi hz).call) (show 1 < 30 from Nat.le_of_ble_eq_true rfl) hline
  case b1 => kernel_rfl
  case b2 => kernel_rfl
  case b5 => walk_at "m.get"
  case b6 => walk_at "m.get"
  case b7 => walk_at "m.no"
  case b8 => walk_at "m.keep"
theorem OpR.intup2 {x a b : PySem.Str} : OpR D n (compareOp .In) (.str x) (.tup [.str a, .str b]) (.bool ([a, b].any (· == x))) := OpR.intup (xs := [a, b])
inductive StepT : PySem.Str → PySem.Str → PySem.Str → Bool → PySem.Str → PySem.Str → Bool → Prop
  | sWord {ch tk : PySem.Str} {q : Bool} : Txt.contains " \t\r\n" ch = false → Txt.contains wordC ch = true → StepT " " ch tk q "a" ch q
  | sOther {ch tk : PySem.Str} {q : Bool} : Txt.contains " \t\r\n" ch = false → Txt.contains wordC ch = false → Txt.contains "'\"" ch = false → StepT " " ch tk q "a" ch q
  | sQuote {ch tk : PySem.Str} {q : Bool} : Txt.contains " \t\r\n" ch = false → Txt.contains wordC ch = false → Txt.contains "'\"" ch = true → StepT " " ch tk q ch tk q
  | qClose {st tk : PySem.Str} {q : Bool} : Txt.contains "'\"" st = true → (st == " ") = false → StepT st st tk q "a" tk true
  | qIn {st ch tk : PySem.Str} {q : Bool} : Txt.contains "'\"" st = true → (st == " ") = false → (ch == st) = false → StepT st ch tk q st (tk ++ ch) true
  | aQuote {ch tk : PySem.Str} {q : Bool} : Txt.contains " \t\r\n" ch = false → Txt.contains "'\"" ch = true → StepT "a" ch tk q ch tk q
  | aChar {ch tk : PySem.Str} {q : Bool} : Txt.contains " \t\r\n" ch = false → Txt.contains "'\"" ch = false → StepT "a" ch tk q "a" (tk ++ ch) q
structure SignOk (ch : PySem.Str) : Prop where
  len : ch.length = 1
  nl : (ch == "\n") = false
  com : Txt.contains "" ch = false
  esc : Txt.contains "\\" ch = false
inductive TokR (z : PySem.Str) : Nat → PySem.Str → PySem.Str → Bool → PV → PySem.Str → Bool → Nat → Prop
  | step {i i' : Nat} {st tk st' tk' tk'' : PySem.Str} {q q' q'' : Bool} {sf : PV} : i < z.length → SignOk (chA z i) → tk.length ≤ 100000 → StepT st (chA z i) tk q st' tk' q' → TokR z (i + 1) st' tk' q' sf tk'' q'' i' → TokR z i st tk q sf tk'' q'' i'
  | eof {i : Nat} {tk : PySem.Str} {q : Bool} : z.length ≤ i → TokR z i "a" tk q .none tk q i
  | ws {i : Nat} {tk : PySem.Str} {q : Bool} : i < z.length → SignOk (chA z i) → Txt.contains " \t\r\n" (chA z i) = true → tk.length ≤ 100000 → (tk.length ≠ 0 ∨ q = true) → TokR z i "a" tk q (.str " ") tk q (i + 1)
theorem tokLoop {z : PySem.Str} {test : Expr} {body r : List Stmt} {bs : List (List Stmt)} {o : Out} (ht : ∀ W, TestR D n env W test true W)
    (hstep : ∀ (i : Nat) (st tk st' tk' : PySem.Str) (q q' : Bool), i < z.length → SignOk (chA z i) → tk.length ≤ 100000 → StepT st (chA z i) tk q st' tk' q' → ExecR D n env (rdF L x q :: rdW x d io di z (.str st) tk i W) body (.next (rdF L x q' :: rdW x d io di z (.str st') tk' (i + 1) W)))
    (heof : ∀ (i : Nat) (tk : PySem.Str) (q : Bool), z.length ≤ i → ExecR D n env (rdF L x q :: rdW x d io di z (.str "a") tk i W) body (.brk (rdF L x q :: rdW x d io di z .none tk i W)))
    (hws : ∀ (i : Nat) (tk : PySem.Str) (q : Bool), i < z.length → SignOk (chA z i) → Txt.contains " \t\r\n" (chA z i) = true → tk.length ≤ 100000 → (tk.length ≠ 0 ∨ q = true) → ExecR D n env (rdF L x q :: rdW x d io di z (.str "a") tk i W) body (.brk (rdF L x q :: rdW x d io di z (.str " ") tk (i + 1) W)))
    {i i' : Nat} {st tk tk' : PySem.Str} {q q' : Bool} {sf : PV} (h : TokR z i st tk q sf tk' q' i') (ha : ExecK D n env (rdF L x q' :: rdW x d io di z sf tk' i' W) (r :: bs) o) :
    WhileE D n env test body [] r bs o (rdF L x q :: rdW x d io di z (.str st) tk i W) := by
  induction h with
  | step h1 h2 h3 h4 _ ih => exact WhileE.next (ht _) (hstep _ _ _ _ _ _ _ h1 h2 h3 h4) (ih ha)
  | eof h1 => exact WhileE.brk (ht _) (heof _ _ _ h1) ha
  | ws h1 h2 h3 h4 h5 => exact WhileE.brk (ht _) (hws _ _ _ h1 h2 h3 h4 h5) ha
end
end

local macro_rules | `(tactic| walk_at $s) => lines s "ev: punctE * 1 2 ; 1 name 2 urfl | readE * 1 2 3 4 5 6 ; 1 ev 2 evs 3 as 4 as 5 irfl 6 rfl | readEndE * 1 2 3 4 5 6 ; 1 ev 2 evs 3 as 4 as 5 irfl 6 rfl
op: OpR.intup2
goF: ExecK.ifF ( TestR.is 1 2 ) 0 ; 1 test 2 e
goT: ExecK.ifT ( TestR.is 1 2 ) 0 ; 1 test 2 e
goBF: ExecK.ifF ( TestR.boolop 1 ) 0 ; 1 all
goBT: ExecK.ifT ( TestR.boolop 1 ) 0 ; 1 all
nil: ExecK.nil 21
xx: @ x
leafN: ExecK.cutF 1 2 ; 2 dn 1 subsig
leafB: ExecK.cutF 1 2 ; 2 brk 1 subsig
brk: ExecK.brk
done: ExecK.done
look: sh_posix | sh_eof | sh_commenters | sh_wordchars | sh_whitespace | sh_whitespace_split | sh_quotes | sh_escape | sh_escapedquotes | sh_state | sh_pushback | sh_lineno | sh_debug | sh_token
put: shp_state | shp_token"
section
open PySem PySem.W PyProof.Rows PySem.Calls PyProof.V
set_option maxHeartbeats 4000000
section
variable {D : Wd} {n : Nat} {env : Env} {L x d io di : Addr} {ns : Kinds} {cl : List (PySem.Str × Addr)} {W W' W'' : Wld}
theorem readtoken_spec (f : D.Fit) {z tk' : PySem.Str} (hz : z.length ≤ 1000000) {i i' : Nat} {q' : Bool} {sf : PV} (h : TokR z i " " "" false sf tk' q' i') (hne : tk'.length ≠ 0 ∨ q' = true) : CodeR D (n + 3) (rdW x d io di z (.str " ") "" i W) (.ref 828) [.con (.ref x)] [] (.str tk') (rdW x d io di z sf "" i' W) := by
  have hqa : Txt.contains "'\"" "a" = false := by decide +kernel
  have hea : Txt.contains "\\" "a" = false := by decide +kernel
  refine' CodeR.kF f 828 ["self"] ?e ?hb ?hc ?hok rfl (bind1 ?hbind) ?h
  case e => with_unfolding_all rfl
  case hb => rfl
  case hc => kernel_rfl
  case hok => kernel_rfl
  case hbind => intro v; with_unfolding_all rfl
  case h =>
    intro L env ok
    dsimp only [List.zip_cons_cons, List.zip_nil_left] at ok ⊢
    refine' id ?hh
    case hh =>
      walk_at "m.x"
      walk_at "m.x"
      refine' ExecK.whileE (tokLoop ?ht ?hstep ?heof ?hws h ?ha)
      case ht => intro W; walk_at "m.test"
      case hstep =>
        intro i st tk st' tk' q q' hi hs htk hst
        refine' ExecK.run ?k
        case k =>
          refine' ExecK.ifF (TestR.boolop ?b1) ?k1
          case b1 => walk_at "m.all"
          case k1 =>
            walk_at "m.x"
            walk_at "m.x"
            have hlen := hs.len
            have hnl := hs.nl
            have hcom := hs.com
            have hesc := hs.esc
            have hn1 : (!((chA z i).length != 0)) = false := by rw [hlen]; rfl
            have hadd : tk.length + (chA z i).length ≤ 16777216 := by lia
            have hch : (chA z i).length ≤ 16777216 := by lia
            walk_at "m.goF"
            walk_at "m.nil"
            walk_at "m.goF"
            walk_at "m.nil"
            walk_at "m.goF"
            clear hi htk
            generalize chA z i = ch at *
            induction hst with
            | @sWord ch tk q h1 h2 =>
              walk_at "m.goT"
              walk_at "m.goF"
              walk_at "m.goF"
              walk_at "m.goF"
              walk_at "m.goF"
              walk_at "m.goT"
              walk_at "m.xx"
              walk_at "m.xx"
              walk_at "m.leafN"
            | @sOther ch tk q h1 h2 h3 =>
              walk_at "m.goT"
              walk_at "m.goF"
              walk_at "m.goF"
              walk_at "m.goF"
              walk_at "m.goF"
              walk_at "m.goF"
              walk_at "m.goF"
              walk_at "m.goF"
              walk_at "m.goT"
              walk_at "m.xx"
              walk_at "m.xx"
              walk_at "m.leafN"
            | @sQuote ch tk q h1 h2 h3 =>
              walk_at "m.goT"
              walk_at "m.goF"
              walk_at "m.goF"
              walk_at "m.goF"
              walk_at "m.goF"
              walk_at "m.goF"
              walk_at "m.goF"
              walk_at "m.goT"
              walk_at "m.goF"
              walk_at "m.nil"
              walk_at "m.xx"
              walk_at "m.leafN"
            | @qClose ch tk q h1 h2 =>
              have hbe : (ch == ch) = true := beq_self_eq_true _
              walk_at "m.goF"
              walk_at "m.goT"
              walk_at "m.xx"
              walk_at "m.goF"
              walk_at "m.nil"
              walk_at "m.goT"
              walk_at "m.goF"
              walk_at "m.xx"
              walk_at "m.leafN"
            | @qIn st ch tk q h1 h2 h3 =>
              walk_at "m.goF"
              walk_at "m.goT"
              walk_at "m.xx"
              walk_at "m.goF"
              walk_at "m.nil"
              walk_at "m.goF"
              walk_at "m.goBF"
              walk_at "m.xx"
              walk_at "m.leafN"
            | @aQuote ch tk q h1 h2 =>
              walk_at "m.goF"
              walk_at "m.goF"
              walk_at "m.goF"
              walk_at "m.goT"
              walk_at "m.goF"
              walk_at "m.goF"
              walk_at "m.goF"
              walk_at "m.goF"
              walk_at "m.goT"
              walk_at "m.xx"
              walk_at "m.leafN"
            | @aChar ch tk q h1 h2 =>
              walk_at "m.goF"
              walk_at "m.goF"
              walk_at "m.goF"
              walk_at "m.goT"
              walk_at "m.goF"
              walk_at "m.goF"
              walk_at "m.goF"
              walk_at "m.goF"
              walk_at "m.goF"
              walk_at "m.goF"
              have hnot : (true && !Txt.contains "" ch) = true := by rw [hcom]; rfl
              refine' ExecK.ifT (W₁ := (L, MO.frame [("self", .con (.ref x)), ("quoted", .bool q), ("escapedstate", .str " "), ("nextchar", .str ch)]) :: rdW x d io di z (.str "a") tk (i + 1) W) ?t0 ?k0
              case t0 =>
                by_cases hw : Txt.contains wordC ch = true
                · refine' TestR.boolop ?t1
                  case t1 => walk_at "m.all"
                · have hw : Txt.contains wordC ch = false := by simpa using hw
                  refine' TestR.boolop (AllR.orF (TestR.is ?t1 ?e1) (AllR.orF (TestR.is ?t2 ?e2) (AllR.orT (TestR.is ?t3 ?e3))))
                  case t1 => walk_at "m.test"
                  case e1 => walk_at "m.e"
                  case t2 => walk_at "m.test"
                  case e2 => walk_at "m.e"
                  case t3 => walk_at "m.test"
                  case e3 => walk_at "m.e"
              case k0 =>
                walk_at "m.xx"
                walk_at "m.leafN"
      case heof =>
        intro i tk q hi
        refine' ExecK.run ?k
        case k =>
          walk_at "m.goBF"
          walk_at "m.xx"
          walk_at "m.nil"
          walk_at "m.goF"
          walk_at "m.nil"
          walk_at "m.goF"
          walk_at "m.nil"
          walk_at "m.goF"
          walk_at "m.goF"
          walk_at "m.goF"
          walk_at "m.goF"
          walk_at "m.goT"
          walk_at "m.goT"
          walk_at "m.xx"
          walk_at "m.leafB"
      case hws =>
        intro i tk q hi hs h1 htk h2
        have hlen := hs.len
        have hnl := hs.nl
        have hcom := hs.com
        have hesc := hs.esc
        have hn1 : (!((chA z i).length != 0)) = false := by rw [hlen]; rfl
        have hch : (chA z i).length ≤ 16777216 := by lia
        have htk' : tk.length ≤ 16777216 := by lia
        have hb : ((tk.length != 0) || (true && q)) = true := by
          rcases h2 with h2 | h2
          · simp [h2]
          · simp [h2]
        refine' ExecK.run ?k
        case k =>
          walk_at "m.goBF"
          walk_at "m.xx"
          walk_at "m.nil"
          walk_at "m.goF"
          walk_at "m.nil"
          walk_at "m.goF"
          walk_at "m.nil"
          walk_at "m.goF"
          walk_at "m.goF"
          walk_at "m.goF"
          walk_at "m.goF"
          walk_at "m.goT"
          walk_at "m.goF"
          walk_at "m.goT"
          walk_at "m.goF"
          walk_at "m.nil"
          walk_at "m.xx"
          walk_at "m.goT"
          walk_at "m.leafB"
      case ha =>
        walk_at "m.xx"
        walk_at "m.xx"
        have hdis : (!q') = false ∨ ((!q') = true ∧ (tk' == "") = false) := by
          cases q' with
          | true => exact .inl rfl
          | false =>
            refine .inr ⟨rfl, ?_⟩
            have h4 : tk'.length ≠ 0 := by simpa using hne
            rw [beq_eq_false_iff_ne]
            rintro rfl
            exact h4 rfl
        refine' ExecK.ifF (W₁ := (L, MO.frame [("self", .con (.ref x)), ("quoted", .bool q'), ("escapedstate", .str " "), ("result", .str tk')]) :: rdW x d io di z sf "" i' W) (TestR.boolop ?t0) ?k0
        case t0 =>
          rcases hdis with h3 | ⟨h3, h4⟩
          · walk_at "m.all"
          · walk_at "m.all"
        case k0 =>
          walk_at "m.nil"
          walk_at "m.goF"
          walk_at "m.nil"
          walk_at "m.x"
end
end

section
open PySem PySem.W PyProof.Rows PySem.Calls PyProof.V
section
variable {D : Wd} {n : Nat} {W W' : Wld}
end
end

section
open PySem PySem.W PyProof.Rows PySem.Calls PyProof.V
section
variable {M : Model} {A : Around} {E : Value → Shared → Prop} {s : Shared}
theorem leaving_new {base : Heap} {env : Env} {outer : List Env} {L e : Addr} {oe : Obj} {vs : Array Value} {Q : Unit → Shared → Prop}
    (hfr : A.frames = some (env :: outer)) (hl : s.heap.FunFrames base (env :: outer)) (hf : env.frame = some L)
    (he : s.heap.get? e = some oe) (hd : oe.data = .fields vs) (h1 : vs[1]? = some .none)
    (h : ∀ h', (∀ b o, b ∉ (env :: outer).filterMap (·.frame) → b ≠ e → s.heap.get? b = some o → h'.get? b = some o) → (∀ b o, b ≠ e → s.heap.get? b = some o → ∃ sl, h'.get? b = some { o with slots := sl }) →
      (∃ o', h'.get? e = some o' ∧ o'.cls = oe.cls) → Q () { s with heap := h' }) : wpAny M A (leaving env (.ref e)) Q E s := by
  unfold leaving noteFrame
  simp only [hf]
  refine wpAny_bind (wpAny_bind (wpAny_field he hd h1 ?_))
  rw [if_neg (by decide)]
  have hsz : 1 < vs.size := (Array.getElem?_eq_some_iff.mp h1).1
  have hene : e ∉ (env :: outer).filterMap (·.frame) := fun hm => by
    obtain ⟨_, o, ho, hnf⟩ := hl.mem hm
    rw [he] at ho; injection ho with ho; subst ho; exact hnf vs hd
  refine wpAny_bind (wpAny_frameOf_fun hfr hl hf fun h₁ hs₁ => ?_)
  refine wpAny_bind (wpAny_entryPlaceOf fun pl hpl => ?_)
  unfold EntryCells.newEntry newFields
  refine wpAny_bind (wpAny_newObj_type ?_ (hpl.sizeOk5 _ _ _ _ _))
  have he₁ : h₁.get? e = some oe := (hs₁.2.1 e hene).trans he
  have he₂ := Heap.get?_push_of_some (h := h₁) { cls := .type "traceback", dict := none, data := .fields ([Value.none, .ref L, .none, rawInt L, .none] ++ (if pl.isEmpty then List.replicate 6 Value.none else pl)).toArray } he₁
  refine wpAny_setField he₂ hd hsz ?_
  have hTe : h₁.objs.size ≠ e := Nat.ne_of_gt (Heap.lt_size he₁)
  have hd₃ := Obj.data_mapFields hd (·.setIfInBounds 1 (Value.ref h₁.objs.size))
  have he₃ := Heap.get?_update_self (Obj.mapFields (·.setIfInBounds 1 (Value.ref h₁.objs.size))) he₂ (Obj.isFreed_of_fields hd₃)
  have hT₃ := (Heap.get?_update_other (h₁.push { cls := .type "traceback", dict := none, data := .fields ([Value.none, .ref L, .none, rawInt L, .none] ++ (if pl.isEmpty then List.replicate 6 Value.none else pl)).toArray })
    (Obj.mapFields (·.setIfInBounds 1 (Value.ref h₁.objs.size))) (Ne.symm hTe)).trans (Heap.get?_push_size h₁ rfl)
  unfold setFlight
  refine wpAny_bind (wpAny_field he₃ hd₃ (x := .ref h₁.objs.size) (by simp [hsz]) ?_)
  rw [if_pos (show (Value.ref h₁.objs.size != Value.none) = true from by simp)]
  refine wpAny_setField hT₃ rfl (by simp only [List.size_toArray, List.length_append, List.length_cons, List.length_nil] <;> lia) (h _ ?_ ?_ ?_)
  · intro b o hb hbe ho
    have hb₁ : h₁.get? b = some o := (hs₁.2.1 b hb).trans ho
    have hbT : h₁.objs.size ≠ b := Nat.ne_of_gt (Heap.lt_size hb₁)
    rw [Heap.get?_update_other _ _ hbT, Heap.get?_update_other _ _ (Ne.symm hbe)]
    exact Heap.get?_push_of_some _ hb₁
  · intro b o hbe ho
    obtain ⟨sl, hb₁⟩ := hs₁.2.2 b o ho
    have hbT : h₁.objs.size ≠ b := Nat.ne_of_gt (Heap.lt_size hb₁)
    refine ⟨sl, ?_⟩
    rw [Heap.get?_update_other _ _ hbT, Heap.get?_update_other _ _ (Ne.symm hbe)]
    exact Heap.get?_push_of_some _ hb₁
  · exact ⟨_, (Heap.get?_update_other _ _ hTe).trans he₃, Obj.cls_mapFields _ _⟩
end
section
variable {D : Wd} {F G : Led} {W : Wld} {s : Shared}
theorem MO.slots {σ : Sg} {G : Led} {h h' : Heap} {L : Addr} (k : ∀ o, h.get? L = some o → ∃ sl, h'.get? L = some { o with slots := sl }) (hm : (MO.frame σ).Is G h L) : (MO.frame σ).Is G h' L := by
  obtain ⟨m, ⟨o, es, ep, e, hd, r⟩, q⟩ := hm
  obtain ⟨sl, e'⟩ := k o e
  exact ⟨m, ⟨_, es, ep, e', hd, r⟩, q⟩
theorem wld_unique {W : Wld} : (W.map (·.1)).Nodup → ∀ p ∈ W, ∀ q ∈ W, p.1 = q.1 → p = q := by
  induction W with
  | nil => intro _ p hp; cases hp
  | cons w W ih =>
    intro h p hp q hq e
    rw [List.map_cons, List.nodup_cons] at h
    rcases List.mem_cons.mp hp with h1 | hp
    · rcases List.mem_cons.mp hq with h2 | hq
      · rw [h1, h2]
      · exact absurd (List.mem_map.mpr ⟨q, hq, by rw [← e, h1]⟩) h.1
    · rcases List.mem_cons.mp hq with h2 | hq
      · exact absurd (List.mem_map.mpr ⟨p, hp, by rw [e, h2]⟩) h.1
      · exact ih h.2 p hp q hq e
theorem Core.slots (c : Core D F G W s) {S : List Addr} {h' : Heap} {t : Nat} (hS : ∀ L ∈ S, ∃ σ, (L, MO.frame σ) ∈ W) (hk : ∀ b o, b ∉ S → s.heap.get? b = some o → h'.get? b = some o) (hsl : ∀ b ∈ S, ∀ o, s.heap.get? b = some o → ∃ sl, h'.get? b = some { o with slots := sl }) :
    Core D F G W { s with heap := h', toks := t } := by
  have inW : ∀ L ∈ S, ∃ p ∈ W, p.1 = L := fun L hL => let ⟨σ, hm⟩ := hS L hL; ⟨_, hm, rfl⟩
  have nodup := c.nd
  refine ⟨c.base, fun a o g => hk a o (fun hm => ?_) (c.inn a o g), fun a o f => hk a o (fun hm => ?_) (c.frn a o f), c.apart, c.wG, c.wF, c.nd, fun p hp => ?_, c.gens, c.os⟩
  · obtain ⟨p, hp, rfl⟩ := inW a hm; exact c.wG p hp o g
  · obtain ⟨p, hp, rfl⟩ := inW a hm; exact c.wF p hp o f
  · by_cases hm : p.1 ∈ S
    · obtain ⟨σ, hq⟩ := hS _ hm
      have e : p = (p.1, MO.frame σ) := wld_unique nodup p hp _ hq rfl
      have hw := c.wok p hp
      rw [e] at hw ⊢
      exact MO.slots (fun o ho => hsl _ hm o ho) hw
    · exact MO.mv Led.le.rfl (fun o ho => hk _ o hm ho) (c.wok p hp)
noncomputable def FramesIn (l : List Env) (W : Wld) : Prop := ∀ env ∈ l, env.scope.kind ≠ .module ∧ ∃ L σ, env.frame = some L ∧ (L, MO.frame σ) ∈ W
theorem Core.framesOf (c : Core D F G W s) : ∀ {l : List Env}, FramesIn l W → s.heap.FunFrames D.B l
  | [], _ => trivial
  | env :: r, h => by
    obtain ⟨h1, L, σ, h2, h3⟩ := h env (.head _)
    obtain ⟨m, ⟨o, es, ep, e, hd, _⟩, _⟩ := c.wok _ h3
    refine ⟨h1, ⟨L, o, h2, ?_, e, fun vs hv => ?_⟩, c.framesOf fun env' hm => h env' (.tail _ hm)⟩
    · cases hb : D.B.get? L with
      | none => rfl
      | some o' => exact absurd (c.base _ _ hb) (c.wG _ h3 o')
    · rw [hd] at hv; cases hv
end
end

section
open PySem PySem.W PyProof.Rows PySem.Calls PyProof.V
section
variable {D : Wd} {W W' : Wld}
structure WalkT (D : Wd) (T : Around → Prop) (G₀ : Led) (I : Addr) (Wi : Nat → Wld) (Wend : Wld) (ps : List PV) : Prop where
  next : ∀ (A : Around) (F G : Led) (W : Wld) (s : Shared) (i : Nat) (Q : Option Value → Shared → Prop) (E : Value → Shared → Prop), T A → Core D F G (Wi i ++ W) s → G₀.le G → i ≤ ps.length →
    (∀ p, ps[i]? = some p → ∀ G' v s', G.le G' → Core D F G' (Wi (i + 1) ++ W) s' → Rep G' v p → Q (some v) s') → (ps[i]? = none → ∀ G' s', G.le G' → Core D F G' (Wend ++ W) s' → Q none s') →
    wpAny (model D.prog D.w) A (pyNext (.ref I)) Q E s
theorem extend_loopT {T : Around → Prop} {G₀ : Led} {I : Addr} {Wi : Nat → Wld} {Wend : Wld} {ps : List PV} (X : WalkT D T G₀ I Wi Wend ps) (hz : ps.length ≤ 100000) (S : Addr) (res : Value) :
    ∀ (k i : Nat) (A : Around) (Fo G : Led) (W : Wld) (s : Shared) (R : Result → Shared → Prop), ps.length - i = k → i ≤ ps.length → T A.in1 → Core D Fo G ((S, .lst (ps.take i)) :: (Wi i ++ W)) s → G₀.le G →
    (∀ G' s', G.le G' → Core D Fo G' ((S, .lst ps) :: (Wend ++ W)) s' → R (.ok (.ret res)) s') → codeAny (model D.prog D.w) A (.builtin "list.extend.loop" ⟨[.ref S, .ref I, res], []⟩) R s := by
  intro k
  induction k with
  | zero =>
    intro i A Fo G W s R hk hi rm c hG hR
    have hin : i = ps.length := by lia
    subst hin
    refine codeAny_builtin PySem.F.entry_extend_loop ?_
    rw [Around.under_plainId PySem.F.plain_extend_loop _]
    show wpAny _ A.in1 (pyNext (.ref I) >>= _) _ _ s
    have c' : Core D Fo G (Wi ps.length ++ ((S, .lst (ps.take ps.length)) :: W)) s := c.perm' List.perm_middle
    refine wpAny_bind (X.next _ Fo G _ s _ _ _ rm c' hG (Nat.le_refl _) (fun p hp => by simp at hp) fun _ G' s' l c₁ => ?_)
    refine wpAny_pure (hR G' s' l ?_)
    have := c₁.perm' (W' := (S, .lst (ps.take ps.length)) :: (Wend ++ W)) List.perm_middle.symm
    rwa [List.take_length] at this
  | succ k ih =>
    intro i A Fo G W s R hk hi rm c hG hR
    have hlt : i < ps.length := by lia
    have hp : ps[i]? = some ps[i] := List.getElem?_eq_getElem hlt
    refine codeAny_builtin PySem.F.entry_extend_loop ?_
    rw [Around.under_plainId PySem.F.plain_extend_loop _]
    show wpAny _ A.in1 (pyNext (.ref I) >>= _) _ _ s
    have c' : Core D Fo G (Wi i ++ ((S, .lst (ps.take i)) :: W)) s := c.perm' List.perm_middle
    refine wpAny_bind (X.next _ Fo G _ s _ _ _ rm c' hG hi (fun p hp' G' v s' l c₁ rv => ?_) fun hn => by rw [hp] at hn; cases hn)
    rw [hp] at hp'
    cases hp'
    have c₂ := c₁.perm' (W' := (S, .lst (ps.take i)) :: (Wi (i + 1) ++ W)) List.perm_middle.symm
    obtain ⟨vs, ⟨o, m, ho, hc, hd, hdt⟩, rvs⟩ := c₂.wok _ (.head _)
    have ho : s'.heap.get? S = some o := ho
    have hvl : vs.length = i := by rw [rvs.length, List.length_take]; lia
    show wpAny _ A.in1 (updateSeq S (·.push v) >>= _) _ _ _
    refine wpAny_bind (wpAny_updateSeq ho hdt (wpAny_pure ⟨plainId_quiet PySem.F.plain_extend_loop _, ?_⟩) (by rw [List.size_toArray, hvl, sizeLine_eq]; lia) (by rw [Array.size_push, List.size_toArray, hvl, sizeLine_eq]; lia))
    refine ih (i + 1) A Fo G' W _ R (by lia) hlt rm (c₂.putW (m' := .lst (ps.take (i + 1))) (t := s'.toks) .here (Heap.SameBut.update ..) ⟨vs ++ [v], lst_turn ho hc hd hdt _ (by simp), ?_⟩) (hG.trans l) fun G'' s'' l' c₃ => hR G'' s'' (l.trans l') c₃
    rw [List.take_succ, hp]
    exact rvs.append (.cons rv .nil)
structure IterT (D : Wd) (T : Around → Prop) (G₀ : Led) (X I : Addr) (typ : Value) (W₀ W₁ : Wld) : Prop where
  ty : ∀ (A : Around) (Fo G : Led) (W : Wld) (s : Shared) (Q : Value → Shared → Prop) (E : Value → Shared → Prop), Core D Fo G (W₀ ++ W) s → Q typ s → wpAny (model D.prog D.w) A (typeOf (.ref X)) Q E s
  len : ∀ (A : Around) (Fo G : Led) (W : Wld) (s : Shared) (Q : Option Value → Shared → Prop) (E : Value → Shared → Prop), Core D Fo G (W₁ ++ W) s → Q none s → wpAny (model D.prog D.w) A (specialOf (.ref X) "__len__") Q E s
  hint : ∀ (A : Around) (Fo G : Led) (W : Wld) (s : Shared) (Q : Option Value → Shared → Prop) (E : Value → Shared → Prop), Core D Fo G (W₁ ++ W) s → Q none s → wpAny (model D.prog D.w) A (specialOf (.ref X) "__length_hint__") Q E s
  iter : ∀ (A : Around) (Fo G : Led) (W : Wld) (s : Shared) (Q : Value → Shared → Prop) (E : Value → Shared → Prop), T A → Core D Fo G (W₀ ++ W) s → G₀.le G → (∀ G' s', G.le G' → Core D Fo G' (W₁ ++ W) s' → Q (.ref I) s') → wpAny (model D.prog D.w) A (pyIter (.ref X)) Q E s
  nl : (typ == .type "list") = false
  nt : (typ == .type "tuple") = false
theorem extendWithT {T : Around → Prop} {G₀ : Led} {X I : Addr} {typ : Value} {W₀ : Wld} {Wi : Nat → Wld} {Wend : Wld} {ps : List PV} (Y : IterT D T G₀ X I typ W₀ (Wi 0)) (Z : WalkT D T G₀ I Wi Wend ps) (hz : ps.length ≤ 100000) (S : Addr) (hSX : S ≠ X) (res : Value) (A : Around) (Fo G : Led) (W : Wld) (s : Shared) (R : Result → Shared → Prop)
    (rm : T A.in1) (c : Core D Fo G ((S, .lst []) :: (W₀ ++ W)) s) (hG : G₀.le G) (hR : ∀ G' s', G.le G' → Core D Fo G' ((S, .lst ps) :: (Wend ++ W)) s' → R (.ok (.ret res)) s') :
    wpAny (model D.prog D.w) A.in1 (Builtin.List.listExtendWith (.ref S) (.ref X) res) (fun fin s' => match fin with | .done f => R (.ok f) s' | .again c' => c'.quiet = true ∧ codeAny (model D.prog D.w) A c' R s') (fun e s' => R (.error e) s') s := by
  unfold Builtin.List.listExtendWith
  refine wpAny_bind (Y.ty _ Fo G ((S, .lst []) :: W) s _ _ (c.perm' List.perm_middle) ?_)
  have h1 : Builtin.List.listSameRef (.ref S) (.ref X) = false := by simp [Builtin.List.listSameRef, hSX]
  simp only [h1, Y.nl, Y.nt, Bool.or_false, Bool.false_eq_true, if_false]
  refine wpAny_bind (Y.iter _ Fo G ((S, .lst []) :: W) s _ _ rm (c.perm' List.perm_middle) hG fun G₁ s₁ l₁ c₁ => ?_)
  refine wpAny_bind (wpAny_holding ?_)
  unfold Builtin.List.listLengthHint
  refine wpAny_bind (Y.len _ Fo G₁ _ s₁ _ _ c₁ ?_)
  show wpAny _ A.in1 (specialOf (Value.ref X) (Str.ofString "__length_hint__") >>= _) _ _ _
  refine wpAny_bind (Y.hint _ Fo G₁ _ s₁ _ _ c₁ ?_)
  refine wpAny_pure ?_
  show wpAny _ A.in1 (rule "list.extend.makes-room" >>= fun _ => Builtin.List.listTouch (.ref S) >>= fun _ =>
    again (.builtin "list.extend.loop" ⟨[.ref S, .ref I, res], []⟩)) _ _ _
  refine wpAny_bind (wpAny_rule ?_)
  have c₂ := c₁.perm' (W' := (S, .lst []) :: (Wi 0 ++ W)) List.perm_middle.symm
  obtain ⟨vs, ⟨o, m, ho, hc, hd, hdt⟩, rvs⟩ := c₂.wok _ (.head _)
  cases rvs
  have ho : s₁.heap.get? S = some o := ho
  refine wpAny_bind ?_
  show wpAny _ A.in1 (updateSeq S (·.push .none) >>= fun _ => updateSeq S (·.pop)) _ _ _
  refine wpAny_bind (wpAny_updateSeq ho hdt ?_)
  obtain ⟨o₂, m₂, ho₂, hc₂, hd₂, hdt₂⟩ := lst_turn (f := (·.push Value.none)) ho hc hd hdt [.none] (by simp)
  refine wpAny_updateSeq ho₂ hdt₂ ?_
  have hp₃ := lst_turn (f := (·.pop)) ho₂ hc₂ hd₂ hdt₂ [] (by simp)
  have c₃ : Core D Fo G₁ ((S, .lst []) :: (Wi 0 ++ W)) _ := (c₂.putW (m' := .lst []) (t := s₁.toks) .here ((Heap.SameBut.update ..).trans (Heap.SameBut.update ..)) ⟨[], hp₃, .nil⟩)
  refine wpAny_pure ⟨plainId_quiet F.plain_extend_loop _, extend_loopT Z hz S res ps.length 0 A Fo G₁ W _ R (by lia) (Nat.zero_le _) rm c₃ (hG.trans l₁) fun G₂ s₂ l₂ c₄ => hR G₂ s₂ (l₁.trans l₂) c₄⟩
theorem listCallT {T : Around → Prop} {G₀ : Led} {X I : Addr} {typ : Value} {W₀ : Wld} {Wi : Nat → Wld} {Wend : Wld} {ps : List PV} (Y : IterT D T G₀ X I typ W₀ (Wi 0)) (Z : WalkT D T G₀ I Wi Wend ps) (hz : ps.length ≤ 100000) (A : Around) (Fo G : Led) (W : Wld) (s : Shared) (Q : Value → Shared → Prop) (E : Value → Shared → Prop)
    (rm : T A.in1.in1) (c : Core D Fo G (W₀ ++ W) s) (hG : G₀.le G) (hX : ∃ o, s.heap.get? X = some o) (hQ : ∀ G' v s', G.le G' → Core D Fo G' (Wend ++ W) s' → Rep G' v (.list ps) → Q v s') : wpAny (model D.prog D.w) A (PySem.call (.type "list") [.ref X]) Q E s := by
  obtain ⟨ox, hx⟩ := hX
  refine callType_codes (Q₁ := fun obj s₁ => obj = .ref s.heap.objs.size ∧ s₁ = { s with heap := s.heap.push { cls := .type "list", data := .seq #[] } }) F.called_list (F.typeCall_list_1 _) F.entry_list_init
    (code_list_new _ ⟨rfl, rfl⟩) fun obj s₁ h₁ => ?_
  obtain ⟨rfl, rfl⟩ := h₁
  have hS : (s.heap.push { cls := .type "list", data := .seq #[] }).get? s.heap.objs.size = some { cls := .type "list", data := .seq #[] } := Heap.get?_push_size _ rfl
  have c₁ : Core D Fo G ((s.heap.objs.size, .lst []) :: (W₀ ++ W)) _ := c.new (t := s.toks) (h' := s.heap.push { cls := .type "list", data := .seq #[] }) (Nat.le_refl _) (fun _ _ e => Heap.get?_push_of_some _ e) ⟨[], ⟨_, _, Heap.get?_push_size _ rfl, rfl, rfl, rfl⟩, .nil⟩
  refine ⟨⟨_, hS, rfl⟩, F.args_list_init_2 _ _, ?_⟩
  show wpAny _ _ (do let old ← Builtin.List.listItems (.ref s.heap.objs.size); Builtin.List.listUpdate (.ref s.heap.objs.size) (fun _ => #[]); letGo old.toList.reverse; Builtin.List.listExtendWith (.ref s.heap.objs.size) (.ref X) .none) _ _ _
  refine wpAny_bind ?_
  unfold Builtin.List.listItems
  refine wpAny_bind (wpAny_seqItems hS rfl (wpAny_pure ?_))
  show wpAny _ _ (updateSeq s.heap.objs.size (fun _ => #[]) >>= fun _ => letGo (#[] : Array Value).toList.reverse >>= fun _ => Builtin.List.listExtendWith (.ref s.heap.objs.size) (.ref X) .none) _ _ _
  refine wpAny_bind (wpAny_updateSeq hS rfl ?_)
  have c₂ : Core D Fo G ((s.heap.objs.size, .lst []) :: (W₀ ++ W)) _ := c₁.putW (m' := .lst []) (t := s.toks) .here (Heap.SameBut.update ..) ⟨[], lst_turn (f := fun _ => #[]) (vs := []) hS rfl rfl rfl [] rfl, .nil⟩
  refine wpAny_bind (wpAny_letGo ?_)
  refine extendWithT Y Z hz s.heap.objs.size (Nat.ne_of_gt (Heap.lt_size hx)) .none A.in1 Fo G W _ (fun r s' => wants (fun r s₂ => r = .none ∧ Q (.ref s.heap.objs.size) s₂) E r s') rm c₂ hG fun G' s' l c₃ => ?_
  obtain ⟨ob, c₄, r⟩ := Core.still (W₁ := []) c₃
  exact ⟨rfl, hQ _ _ s' (l.trans Led.le_add) c₄ r⟩
end
end

section
open PySem PySem.W PyProof.Rows PySem.Calls PyProof.V
set_option maxHeartbeats 4000000
section
variable {D : Wd} {n : Nat} {env : Env} {L x d io di : Addr} {ns : Kinds} {cl : List (PySem.Str × Addr)} {W W' W'' : Wld}
theorem readnone_spec (f : D.Fit) {z : PySem.Str} (hz : z.length ≤ 1000000) {i : Nat} (hi : z.length ≤ i) : CodeR D (n + 3) (rdW x d io di z .none "" i W) (.ref 828) [.con (.ref x)] [] .none (rdW x d io di z .none "" i W) := by
  refine' CodeR.kF f 828 ["self"] ?e ?hb ?hc ?hok rfl (bind1 ?hbind) ?h
  case e => with_unfolding_all rfl
  case hb => rfl
  case hc => kernel_rfl
  case hok => kernel_rfl
  case hbind => intro v; with_unfolding_all rfl
  case h =>
    intro L env ok
    dsimp only [List.zip_cons_cons, List.zip_nil_left] at ok ⊢
    refine' id ?hh
    case hh =>
      walk_at "m.xx"
      walk_at "m.xx"
      refine' ExecK.whileE (WhileE.brk ?ht (ExecK.run ?hb) ?ha)
      case ht => walk_at "m.test"
      case hb =>
        walk_at "m.goBF"
        walk_at "m.xx"
        walk_at "m.nil"
        walk_at "m.goF"
        walk_at "m.nil"
        walk_at "m.goF"
        walk_at "m.nil"
        walk_at "m.goT"
        walk_at "m.xx"
        with_reducible exact ExecK.brk
      case ha =>
        walk_at "m.xx"
        walk_at "m.xx"
        walk_at "m.goBT"
        walk_at "m.xx"
        walk_at "m.nil"
        walk_at "m.goF"
        walk_at "m.nil"
        walk_at "m.x"
theorem gettoken_spec (f : D.Fit) {z tk : PySem.Str} {i i' : Nat} {st sf : PV} (h : ∀ W : Wld, CodeR D (n + 3) (rdW x d io di z st "" i W) (.ref 828) [.con (.ref x)] [] (.str tk) (rdW x d io di z sf "" i' W)) : CodeR D (n + 4) (rdW x d io di z st "" i W) (.ref 821) [.con (.ref x)] [] (.str tk) (rdW x d io di z sf "" i' W) := by
  refine' CodeR.kF f 821 ["self"] ?e ?hb ?hc ?hok rfl (bind1 ?hbind) ?h
  case e => with_unfolding_all rfl
  case hb => rfl
  case hc => kernel_rfl
  case hok => kernel_rfl
  case hbind => intro v; with_unfolding_all rfl
  case h =>
    intro L env ok
    dsimp only [List.zip_cons_cons, List.zip_nil_left] at ok ⊢
    refine' id ?hh
    case hh =>
      walk_at "m.goF"
      walk_at "m.nil"
      refine' ExecK.assign (EvalR.methI f.kin (shOk f) (fn := 828) ?b1 ?b2 ?b3 ?b4 ?b5 ?b6 ?b7 ?b8 ?b9 (CallR.tl1 (h W).call) ?b10 ?b11) ?s2 ?s4 ?s3
      case b1 => kernel_rfl
      case b2 => kernel_rfl
      case b3 => intro _; rfl
      case b4 => walk_at "m.name"
      case b5 => walk_at "m.get"
      case b6 => walk_at "m.get"
      case b7 => walk_at "m.no"
      case b8 => walk_at "m.keep"
      case b9 => walk_at "m.evs"
      case b10 => decide
      case b11 => rfl
      case s2 => walk_at "m.store"
      case s3 => rfl
      case s4 =>
        walk_at "m.goF"
        walk_at "m.nil"
        refine' ExecK.whileE (WhileE.out ?ht ?k)
        case ht => walk_at "m.test"
        case k =>
          walk_at "m.goF"
          walk_at "m.nil"
          walk_at "m.x"
theorem getnone_spec (f : D.Fit) {z : PySem.Str} {i : Nat} (h : ∀ W : Wld, CodeR D (n + 3) (rdW x d io di z .none "" i W) (.ref 828) [.con (.ref x)] [] .none (rdW x d io di z .none "" i W)) : CodeR D (n + 4) (rdW x d io di z .none "" i W) (.ref 821) [.con (.ref x)] [] .none (rdW x d io di z .none "" i W) := by
  refine' CodeR.kF f 821 ["self"] ?e ?hb ?hc ?hok rfl (bind1 ?hbind) ?h
  case e => with_unfolding_all rfl
  case hb => rfl
  case hc => kernel_rfl
  case hok => kernel_rfl
  case hbind => intro v; with_unfolding_all rfl
  case h =>
    intro L env ok
    dsimp only [List.zip_cons_cons, List.zip_nil_left] at ok ⊢
    refine' id ?hh
    case hh =>
      walk_at "m.goF"
      walk_at "m.nil"
      refine' ExecK.assign (EvalR.methI f.kin (shOk f) (fn := 828) ?b1 ?b2 ?b3 ?b4 ?b5 ?b6 ?b7 ?b8 ?b9 (CallR.tl1 (h W).call) ?b10 ?b11) ?s2 ?s4 ?s3
      case b1 => kernel_rfl
      case b2 => kernel_rfl
      case b3 => intro _; rfl
      case b4 => walk_at "m.name"
      case b5 => walk_at "m.get"
      case b6 => walk_at "m.get"
      case b7 => walk_at "m.no"
      case b8 => walk_at "m.keep"
      case b9 => walk_at "m.evs"
      case b10 => decide
      case b11 => rfl
      case s2 => walk_at "m.store"
      case s3 => rfl
      case s4 =>
        walk_at "m.goF"
        walk_at "m.nil"
        refine' ExecK.whileE (WhileE.ret ?ht (ExecK.run ?k))
        case ht => walk_at "m.test"
        case k =>
          walk_at "m.goT"
          walk_at "m.x"
theorem next_spec (f : D.Fit) {z tk : PySem.Str} {i i' : Nat} {st sf : PV} (h : ∀ W : Wld, CodeR D (n + 3) (rdW x d io di z st "" i W) (.ref 828) [.con (.ref x)] [] (.str tk) (rdW x d io di z sf "" i' W)) : CodeR D (n + 5) (rdW x d io di z st "" i W) (.ref 857) [.con (.ref x)] [] (.str tk) (rdW x d io di z sf "" i' W) := by
  refine' CodeR.kF f 857 ["self"] ?e ?hb ?hc ?hok rfl (bind1 ?hbind) ?h
  case e => with_unfolding_all rfl
  case hb => rfl
  case hc => kernel_rfl
  case hok => kernel_rfl
  case hbind => intro v; with_unfolding_all rfl
  case h =>
    intro L env ok
    dsimp only [List.zip_cons_cons, List.zip_nil_left] at ok ⊢
    refine' id ?hh
    case hh =>
      refine' ExecK.assign (EvalR.methI f.kin (shOk f) (fn := 821) ?b1 ?b2 ?b3 ?b4 ?b5 ?b6 ?b7 ?b8 ?b9 (CallR.tl1 (gettoken_spec (n := n) (W := W) f h).call) ?b10 ?b11) ?s2 ?s4 ?s3
      case b1 => kernel_rfl
      case b2 => kernel_rfl
      case b3 => intro _; rfl
      case b4 => walk_at "m.name"
      case b5 => walk_at "m.get"
      case b6 => walk_at "m.get"
      case b7 => walk_at "m.no"
      case b8 => walk_at "m.keep"
      case b9 => walk_at "m.evs"
      case b10 => decide
      case b11 => rfl
      case s2 => walk_at "m.store"
      case s3 => rfl
      case s4 =>
        walk_at "m.goF"
        walk_at "m.nil"
        walk_at "m.x"
theorem iter_spec (f : D.Fit) : CodeR D (n + 1) W (.ref 850) [.con (.ref x)] [] (.con (.ref x)) W := by
  refine' CodeR.kF f 850 ["self"] ?e ?hb ?hc ?hok rfl (bind1 ?hbind) ?h
  case e => with_unfolding_all rfl
  case hb => rfl
  case hc => kernel_rfl
  case hok => kernel_rfl
  case hbind => intro v; with_unfolding_all rfl
  case h =>
    intro L env ok
    dsimp only [List.zip_cons_cons, List.zip_nil_left] at ok ⊢
    refine' id ?hh
    case hh =>
      walk_at "m.x"
end
end

section
open PySem PySem.W PyProof.Rows PySem.Calls PyProof.V
set_option maxHeartbeats 4000000
section
variable {D : Wd} {n : Nat} {env : Env} {L x d io di : Addr} {ns : Kinds} {cl : List (PySem.Str × Addr)} {W W' W'' : Wld}
theorem callRaise (f : D.Fit) (a : Addr) {c : Value} {d : Option Addr} {fd : FuncData} {sl : Array (Option Value)} {body : List Stmt} {as : List PV} (xs : List PySem.Str)
    (e : (KK D).lookup a = some ⟨c, d, .func fd, sl⟩) (hb : fd.body = .stmts body) (hc : codeIn (KK D) fd.code fd.qualname = true) (hok : fdOk fd xs = true)
    (hbind : ∀ vs : List Value, vs.length = as.length → bindArgs fd ⟨vs, []⟩ = pure (xs.zip vs))
    (h : ∀ (L : Addr) (env : Env), EnvOk env L fd.scope.names [] → ∀ (A : Around) (F G : Led) (s : Shared) (Q : Flow → Shared → Prop) (E : Value → Shared → Prop), Room A n → Core D F G ((L, .frame (xs.zip as)) :: W) s →
      (∀ G' s' σ h' e, G.le G' → Core D F G' ((L, .frame σ) :: W') s' → Heap.MadeExc s'.heap h' e "StopIteration" [] → E (.ref e) { s' with heap := h' }) → wpAny (model D.prog D.w) A (execs body env) Q E s)
    (A : Around) (F G : Led) (s : Shared) (vs : List Value) (Q : Value → Shared → Prop) (E : Value → Shared → Prop) {outer : List Env} (rm : Room A (n + 1)) (hfr : A.frames = some outer) (hW : FramesIn outer W') (co : Core D F G W s) (ra : RepAll G vs as)
    (hE : ∀ G' e s', G.le G' → Core D F G' W' s' → s'.TypeIs (.ref e) "StopIteration" → E (.ref e) s') : wpAny (model D.prog D.w) A (PySem.call (.ref a) vs) Q E s := by
  obtain ⟨a1, a2, a3, a4, a5, a6, a7, a8, a9⟩ := fdOk_facts hok
  have fa := f.fn e hb hc a1 a2 a3 a4 a5 a6
  obtain ⟨ob, ho, hd⟩ := fa.ob
  refine wpAny_call (codeAny_call_def (binds := xs.zip vs) rm.d (co.keeps _ _ ho) hd (f.toOk.nolimit.keeps co.keeps) (fa.code.keeps co.keeps) fa.body (BindsTo.of_eq (hbind vs ra.length)) a7 ?_ (fun h₁ hns hkp => ?_) fa.co fa.gen fa.kind)
  · intro x hx
    exact a8 _ (List.of_mem_zip (a := x.1) (b := x.2) hx).1
  · have eo : EnvOk (callEnv fd s.heap.objs.size a) s.heap.objs.size fd.scope.names [] := ⟨fa.kind, fun _ => rfl, rfl, fa.glob, fa.blt, fa.clos⟩
    have c₁ : Core D F G ((s.heap.objs.size, .frame (xs.zip as)) :: W) { s with heap := h₁, toks := s.toks + (xs.zip vs).length } := co.new (Nat.le_refl _) hkp ⟨_, hns, zip_lookup xs vs as ra a9⟩
    refine wpAny_mono (Q := fun _ _ => False) (h s.heap.objs.size _ eo _ F G _ (fun _ _ => False) (fun ev s₂ => ∃ G' s' σ h' e, ev = .ref e ∧ s₂ = { s' with heap := h' } ∧ G.le G' ∧ Core D F G' ((s.heap.objs.size, .frame σ) :: W') s' ∧ Heap.MadeExc s'.heap h' e "StopIteration" []) rm.deeper c₁ fun G' s' σ h' e l c' m => ⟨G', s', σ, h', e, rfl, rfl, l, c', m⟩) (fun _ _ z => z.elim) ?_
    rintro _ _ ⟨G', s', σ, h', e, rfl, rfl, l, c', m⟩
    obtain ⟨t, he, hnt, ht⟩ := m.there
    have hne : ∀ b o, s'.heap.get? b = some o → b ≠ e := fun b o hb q => by rw [q, m.new] at hb; cases hb
    have hF : FramesIn (callEnv fd s.heap.objs.size a :: outer) ((s.heap.objs.size, .frame σ) :: W') := by
      intro env hm
      rcases List.mem_cons.mp hm with rfl | hm
      · exact ⟨by show fd.scope.kind ≠ .module; rw [a3]; decide, _, σ, rfl, .head _⟩
      · obtain ⟨h1, L, σ', h2, h3⟩ := hW env hm
        exact ⟨h1, L, σ', h2, .tail _ h3⟩
    have hl : ({ s' with heap := h' } : Shared).heap.FunFrames D.B (callEnv fd s.heap.objs.size a :: outer) := (c'.framesOf hF).of_keeps fun b o hb _ => ⟨o, m.keeps b o hb, rfl⟩
    refine leaving_new (L := s.heap.objs.size) (Around.frames_deeper hfr) hl rfl he rfl rfl fun h'' hk hsl he'' => ?_
    refine hE G' e _ l (Core.pop (Core.slots (t := s'.toks) c' (S := (callEnv fd s.heap.objs.size a :: outer).filterMap (·.frame)) ?_ (fun b o hb ho => hk b o hb (hne b o ho) (m.keeps b o ho)) fun b hb o ho => hsl b o (hne b o ho) (m.keeps b o ho))) ?_
    · intro L hL
      obtain ⟨env, hm, q⟩ := List.mem_filterMap.mp hL
      obtain ⟨_, L', σ', h2, h3⟩ := hF env hm
      rw [h2] at q
      cases q
      exact ⟨σ', h3⟩
    · obtain ⟨o', e1, e2⟩ := he''
      exact ⟨o', e1, e2⟩
theorem next_end (f : D.Fit) {z : PySem.Str} {i : Nat} (hz : z.length ≤ 1000000) (hi : z.length ≤ i) (A : Around) (F G : Led) (s : Shared) (Q : Value → Shared → Prop) (E : Value → Shared → Prop) {outer : List Env} (rm : Room A (n + 5)) (hfr : A.frames = some outer) (hW : FramesIn outer (rdW x d io di z .none "" i W))
    (co : Core D F G (rdW x d io di z .none "" i W) s) (hE : ∀ G' e s', G.le G' → Core D F G' (rdW x d io di z .none "" i W) s' → s'.TypeIs (.ref e) "StopIteration" → E (.ref e) s') : wpAny (model D.prog D.w) A (PySem.call (.ref 857) [.ref x]) Q E s := by
  refine' callRaise (n := n + 4) (as := [.con (.ref x)]) f 857 ["self"] ?e ?hb ?hc ?hok (bind1 ?hbind) ?h A F G s [.ref x] Q E rm hfr hW co (.cons (.con _) .nil) hE
  case e => with_unfolding_all rfl
  case hb => rfl
  case hc => kernel_rfl
  case hok => kernel_rfl
  case hbind => intro v; with_unfolding_all rfl
  case h =>
    intro L env ok A F G s Q E rm c k
    dsimp only [List.zip_cons_cons, List.zip_nil_left] at ok c
    refine' ExecS.go (ExecS.assign (EvalR.methI f.kin (shOk f) (fn := 821) ?b1 ?b2 ?b3 ?b4 ?b5 ?b6 ?b7 ?b8 ?b9 (CallR.tl1 (getnone_spec (n := n) (W := W) f fun W => readnone_spec f hz hi).call) ?b10 ?b11) ?s2 ?s3) rm c fun G₁ s₁ l₁ c₁ => ?_
    case b1 => kernel_rfl
    case b2 => kernel_rfl
    case b3 => intro _; rfl
    case b4 => walk_at "m.name"
    case b5 => walk_at "m.get"
    case b6 => walk_at "m.get"
    case b7 => walk_at "m.no"
    case b8 => walk_at "m.keep"
    case b9 => walk_at "m.evs"
    case b10 => decide
    case b11 => rfl
    case s2 => walk_at "m.store"
    case s3 => rfl
    refine' wpAny_execs_cons (wpAny_If ((TestR.is (b' := true) ?t1 ?t2) A F G₁ s₁ _ E rm c₁ fun G₂ s₂ l₂ c₂ => ?_))
    case t1 => walk_at "m.test"
    case t2 => rfl
    refine wpAny_execs_cons (owsi_raiseC rm.handled (Name_function_global ok.kind ((ok.names _).trans ?_) (loadGlobal_builtin (ok.globals.symm ▸ f.toOk.g.keeps c₂.keeps) (f.none ?_) (ok.builtins.symm ▸ f.toOk.b.keeps c₂.keeps) ((f.toOk.builtins _ ?_).trans ?_) ⟨rfl, rfl⟩) ?_) fun h' e m => ?_)
    · kernel_rfl
    · kernel_rfl
    · decide
    · kernel_rfl
    · decide
    · exact k G₂ s₂ _ h' e (l₁.trans l₂) c₂ m
end
end

section
open PySem PySem.W PyProof.Rows PySem.Calls PyProof.V
set_option maxHeartbeats 4000000
section
variable {D : Wd} {n : Nat} {env : Env} {L x d io di : Addr} {ns : Kinds} {cl : List (PySem.Str × Addr)} {W W' W'' Wf : Wld} {K : Frag} {C : Addr} {σ : Sg}
inductive ToksR (z : PySem.Str) : Nat → PV → List PySem.Str → Prop
  | done {i : Nat} : z.length ≤ i → ToksR z i .none []
  | tok {i i' : Nat} {sf : PV} {tk : PySem.Str} {q : Bool} {ts : List PySem.Str} : TokR z i " " "" false sf tk q i' → (tk.length ≠ 0 ∨ q = true) → ToksR z i' sf ts → ToksR z i (.str " ") (tk :: ts)
theorem ToksR.steps {z : PySem.Str} {i : Nat} {st : PV} {ts : List PySem.Str} (h : ToksR z i st ts) : ∃ P : Nat → Nat × PV, P 0 = (i, st) ∧ (∀ k t, ts[k]? = some t → (P k).2 = .str " " ∧ ∃ q, TokR z (P k).1 " " "" false (P (k + 1)).2 t q (P (k + 1)).1 ∧ (t.length ≠ 0 ∨ q = true)) ∧ (P ts.length).2 = .none ∧ z.length ≤ (P ts.length).1 := by
  induction h with
  | done hi => exact ⟨fun _ => (_, .none), rfl, fun k t e => by simp at e, rfl, hi⟩
  | @tok i i' sf tk q ts h1 h2 _ ih =>
    obtain ⟨P, h3, h4, h5, h6⟩ := ih
    refine ⟨fun k => match k with | 0 => (i, .str " ") | k + 1 => P k, rfl, fun k t e => ?_, h5, h6⟩
    cases k with
    | zero =>
      simp at e
      subst e
      refine ⟨rfl, q, ?_, h2⟩
      show TokR z i " " "" false (P 0).2 _ q (P 0).1
      rw [h3]
      exact h1
    | succ k =>
      simp only [List.getElem?_cons_succ] at e
      exact h4 k t e
section
variable {F G : Led} {s : Shared} {A : Around} {E : Value → Shared → Prop}
theorem nextOwn {f : Addr} {Q : Option Value → Shared → Prop} {ob : Obj} {od : Option Obj} (X : K.In s.heap) (I : InstAt s.heap x ob C od) (hs : findIn K (.ref C) "__next__" = some (some (.ref f))) (hf : typeIn K (.ref f) = some (.type "function"))
    (h : wpAny (model D.prog D.w) A (PySem.call (.ref f) [.ref x]) (fun v s' => Q (some v) s') (fun e s' => ∃ a, e = .ref a ∧ s'.TypeIs (.ref a) "StopIteration" ∧ Q none s') s) : wpAny (model D.prog D.w) A (pyNext (.ref x)) Q E s := by
  unfold pyNext
  refine wpAny_bind (wpAny_attempt (special_fn (name := "__next__") (args := []) X I hs hf (wpAny_mono h (fun v s' hq => wpAny_pure hq) fun e s' he => ?_)))
  obtain ⟨a, rfl, hT, hq⟩ := he
  show wpAny _ _ (isInstance (.ref a) (.type "StopIteration") >>= _) _ _ _
  refine wpAny_bind (wpAny_isInstance (T := "StopIteration") (b := true) hT isSubtype_stop ?_)
  exact wpAny_pure hq
theorem iterOwn {f : Addr} {Q : Value → Shared → Prop} {ob : Obj} {od : Option Obj} {g : Value} (X : K.In s.heap) (I : InstAt s.heap x ob C od) (hs : findIn K (.ref C) "__iter__" = some (some (.ref f))) (hf : typeIn K (.ref f) = some (.type "function"))
    (h : wpAny (model D.prog D.w) A (PySem.call (.ref f) [.ref x]) (OwitIt (model D.prog D.w) A Q E) E s) : wpAny (model D.prog D.w) A (pyIter (.ref x)) Q E s := by
  have fin : wpAny (model D.prog D.w) A (PySem.call (.ref f) [.ref x] >>= fun v => pure (some v)) (fun r s' => ∃ v, r = some v ∧ OwitIt (model D.prog D.w) A Q E v s') E s :=
    wpAny_bind (wpAny_mono h (fun v s' h' => wpAny_pure ⟨v, rfl, h'⟩) fun _ _ z => z)
  have one : ∀ refuse : Sem Value, wpAny (model D.prog D.w) A (callSpecialIfBoundUnlessNone? (.ref x) "__iter__" refuse) (fun r s' => ∃ v, r = some v ∧ OwitIt (model D.prog D.w) A Q E v s') E s := by
    intro refuse
    simp only [callSpecialIfBoundUnlessNone?, bindSpecialIfBound?]
    refine wpAny_holding (wpAny_bind (wpAny_bind (wpAny_bind (I.type.here ((looks_findIn X hs).here ?_)))))
    refine wpAny_bind (wpAny_askSetting (wpAny_ite ?_))
    have fin2 : wpAny (model D.prog D.w) A (if (Value.ref f == Value.none) = true then (refuse >>= fun v => pure (some v)) else (PySem.call (.ref f) [.ref x] >>= fun v => pure (some v))) (fun r s' => ∃ v, r = some v ∧ OwitIt (model D.prog D.w) A Q E v s') E s := by
      rw [if_neg (show ¬ ((Value.ref f == Value.none) = true) from Bool.false_ne_true)]
      exact fin
    split
    · exact wpAny_bind ((bind_fn X _ hf).here (wpAny_pure (by exact fin2)))
    · exact wpAny_tryCatch (wpAny_bind ((bind_fn X _ hf).here (wpAny_pure (by exact fin2))))
  unfold pyIter
  refine wpAny_bind (wpAny_bind (I.type.here ((looks_findIn X hs).here ?_)))
  show wpAny _ A (callSpecialIfBoundUnlessNone? (.ref x) "__iter__" _ >>= _) Q E s
  refine wpAny_bind (wpAny_mono (one _) (fun r s' hr => ?_) fun _ _ z => z)
  obtain ⟨v, rfl, hv⟩ := hr
  refine wpAny_bind (wpAny_mono hv (fun r s₂ hr => ?_) fun _ _ z => z)
  cases r with
  | none => exact hr.elim
  | some g => exact wpAny_pure hr
end
noncomputable def TW (n : Nat) (outer : List Env) (A : Around) : Prop := Room A (n + 5) ∧ A.frames = some outer
theorem FramesIn.mono {l : List Env} (h : FramesIn l Wf) (k : ∀ p ∈ Wf, p ∈ W) : FramesIn l W := fun env hm => let ⟨a, L, σ, b, c⟩ := h env hm; ⟨a, L, σ, b, k _ c⟩
theorem shIter (f : D.Fit) {outer : List Env} {G₀ : Led} {z : PySem.Str} {st : PV} {i : Nat} : IterT D (TW n outer) G₀ x x (.ref 860) (rdW x d io di z st "" i Wf) (rdW x d io di z st "" i Wf) where
  ty := fun A Fo G W s Q E c q => by
    obtain ⟨o, m, I, _⟩ := Core.inst (σ := shA io "" true st "") c .here (.there .here)
    exact I.type.here q
  len := fun A Fo G W s Q E c q => by
    obtain ⟨o, m, I, _⟩ := Core.inst (σ := shA io "" true st "") c .here (.there .here)
    unfold specialOf
    refine wpAny_bind (I.type.here ((looks_findIn (f.kin.keeps c.keeps) (r := none) ?_).here q))
    kernel_rfl
  hint := fun A Fo G W s Q E c q => by
    obtain ⟨o, m, I, _⟩ := Core.inst (σ := shA io "" true st "") c .here (.there .here)
    unfold specialOf
    refine wpAny_bind (I.type.here ((looks_findIn (f.kin.keeps c.keeps) (r := none) ?_).here q))
    kernel_rfl
  iter := fun A Fo G W s Q E rm c hG q => by
    obtain ⟨o, m, I, _⟩ := Core.inst (σ := shA io "" true st "") c .here (.there .here)
    refine' iterOwn (g := .none) (f := 850) (f.kin.keeps c.keeps) I ?a ?b ?c
    case a => kernel_rfl
    case b => kernel_rfl
    case c =>
      refine (iter_spec (n := n) f).call A Fo G s [.ref x] [] _ _ (rm.1.mono (by lia)) c (.cons (.con _) .nil) rfl .nil fun G' v s' l c' r => ?_
      cases r
      obtain ⟨o', m', I', _⟩ := Core.inst (σ := shA io "" true st "") c' .here (.there .here)
      unfold OwitIt specialOf
      refine wpAny_bind (I'.type.here ((looks_findIn (f.kin.keeps c'.keeps) (r := some (.ref 857)) ?_).here (q G' s' l c')))
      kernel_rfl
  nl := by decide
  nt := by decide
theorem shWalk (f : D.Fit) {outer : List Env} {G₀ : Led} {z : PySem.Str} {ts : List PySem.Str} {i : Nat} {st : PV} (hz : z.length ≤ 1000000) (hW : FramesIn outer Wf) (h : ToksR z i st ts) : ∃ (Wi : Nat → Wld) (j : Nat), Wi 0 = rdW x d io di z st "" i Wf ∧ WalkT D (TW n outer) G₀ x Wi (rdW x d io di z .none "" j Wf) (ts.map PV.str) := by
  obtain ⟨P, h1, h2, h3, h4⟩ := h.steps
  refine ⟨fun k => rdW x d io di z (P k).2 "" (P k).1 Wf, (P ts.length).1, by show rdW x d io di z (P 0).2 "" (P 0).1 Wf = _; rw [h1], ⟨fun A F G W s k Q E rm c hG hk hsome hnone => ?_⟩⟩
  obtain ⟨o, m, I, _⟩ := Core.inst (σ := shA io "" true (P k).2 "") c .here (.there .here)
  refine' nextOwn (f := 857) (f.kin.keeps c.keeps) I ?a ?b ?c
  case a => kernel_rfl
  case b => kernel_rfl
  case c =>
    cases ht : ts[k]? with
    | some t =>
      obtain ⟨e1, q, e2, e3⟩ := h2 k t ht
      have hc := (next_spec (n := n) (W := Wf ++ W) f fun W => readtoken_spec (x := x) (d := d) (io := io) (di := di) f hz e2 e3).call
      simp only [e1] at c
      refine hc A F G s [.ref x] [] _ _ rm.1 c (.cons (.con _) .nil) rfl .nil fun G' v s' l c' r => ?_
      exact hsome (.str t) (by rw [List.getElem?_map, ht]; rfl) G' v s' l c' r
    | none =>
      have e : k = ts.length := by
        have := List.getElem?_eq_none_iff.mp ht
        rw [List.length_map] at hk
        lia
      subst e
      simp only [h3] at c
      refine next_end (n := n) (W := Wf ++ W) f hz h4 A F G s _ _ rm.1 rm.2 (hW.mono fun p hp => ?_) c fun G' e s' l c' hT => ⟨e, rfl, hT, hnone (by rw [List.getElem?_map, ht]; rfl) G' s' l c'⟩
      exact .tail _ (.tail _ (.tail _ (.tail _ (List.mem_append.mpr (.inl hp)))))
end
end

section
open PySem PySem.W PyProof.Rows PySem.Calls PyProof.V
section
variable {D : Wd} {n : Nat} {env cenv : Env} {L C x d : Addr} {W W' W₁ W₂ W₃ W₄ : Wld} {F G : Led} {s : Shared} {K : Frag}
theorem ownNewW {y id : PySem.Str} {e₁ : Expr} {args : List Expr} {kws : List Keyword} {ps : List PV} {kw : List (PySem.Str × PV)} {p pos' pos cpos : Pos} {PW : Addr → Wld → Prop} {PJ : Wld → Prop} {cd : ClassData} {oc : Value} {od : Option Addr} {sl : Array (Option Value)}
    (X : K.In D.B) (hK : K.lookup C = some ⟨oc, od, .cls cd, sl⟩) (hcall : specialIn K (.ref C) "__call__" = some (some (.builtin "type.__call__")))
    (hn : EvalR D n env W (.Name id p) (.con (.ref C)) W₁) (ha : EvalsR D n env W₁ (e₁ :: args) ps W₂) (hk : KwsR D n env W₂ kws kw W₃) (hmake : MakeP D n W₃ C ps kw PW)
    (hr : ∀ x W₄, PW x W₄ → ∃ W₅, StoreR D env W₄ y (.con (.ref x)) W₅ ∧ PJ W₅)
    (hsw : swapsWith (.Call (.Name id p) (e₁ :: args) kws cpos) (some (.Name y pos')) pos.line env = pure false)
    (A : Around) (F G : Led) (s : Shared) (Q : Flow → Shared → Prop) (E : Value → Shared → Prop) (rm : Room A n) (c : Core D F G W s) (k : ∀ W₅, PJ W₅ → ∀ G' s', G.le G' → Core D F G' W₅ s' → Q .next s') :
    wpAny (model D.prog D.w) A (exec (.Assign [.Name y pos'] (.Call (.Name id p) (e₁ :: args) kws cpos) pos) env) Q E s := by
  refine wpAny_Assign_Name (wpAny_Call_Name_kw (hn A F G s _ E rm c fun G₁ fv s₁ l₁ c₁ rf => ?_)) hsw
  obtain rfl := Rep.con_v rf
  obtain ⟨k1, k2, k3⟩ := hk.facts cpos
  have hs1 : backTo cpos (starEach (e₁ :: args) env) = (false, eval e₁ env) :: backTo cpos (starEach args env) := by
    cases ha with
    | cons he _ _ => rw [he]; rfl
  refine callWith_class (ha.noStar (pos := cpos)).1 k2 hK hcall ?_
  rw [hs1]
  refine evalArgs_kw k1 ?_
  rw [← hs1]
  refine ha.wp A F G₁ s₁ _ E rm c₁ fun G₂ vs s₂ l₂ c₂ rs => hk.wp A F G₂ s₂ _ E rm c₂ fun G₃ us s₃ l₃ c₃ ru => ⟨X.keeps c₃.keeps, ?_⟩
  have hul : us.length = kw.length := by rw [ru.length, List.length_map]
  refine hmake A F G₃ s₃ vs _ _ E rm c₃ (rs.mono l₃) ?_ ?_ fun x W₄ G₄ s₄ hp l₄ c₄ => ?_
  · rw [k3, List.map_fst_zip (by rw [List.length_map, hul]; exact Nat.le_refl _)]
  · rw [k3, List.map_snd_zip (by rw [List.length_map, hul]; exact Nat.le_refl _)]; exact ru
  · obtain ⟨W₅, hst, hx⟩ := hr x W₄ hp
    refine hst A F G₄ s₄ (.ref x) _ E c₄ (.con _) fun s₅ c₅ => ?_
    exact k W₅ hx G₄ s₅ (((l₁.trans l₂).trans l₃).trans l₄) c₅
theorem callNameT {id : PySem.Str} {p pos : Pos} {args : List Expr} {T : String} {ps : List PV} (hf : EvalR D n env W (.Name id p) (.con (.type T)) W₁) (ha : EvalsR D n env W₁ args ps W₂)
    (A : Around) (F G : Led) (s : Shared) (Q : Value → Shared → Prop) (E : Value → Shared → Prop) (rm : Room A n) (c : Core D F G W s) (k : ∀ G' vs s', G.le G' → Core D F G' W₂ s' → RepAll G' vs ps → wpAny (model D.prog D.w) A (PySem.call (.type T) vs) Q E s') :
    wpAny (model D.prog D.w) A (eval (.Call (.Name id p) args [] pos) env) Q E s := by
  refine wpAny_Call_NameR (hf A F G s _ E rm c fun G₁ fv s₁ l₁ c₁ rf => ?_)
  obtain rfl := Rep.con_v rf
  exact callWith_flat (fun a e => by cases e) (ha.noStar (pos := pos)).1 (evalArgs_of (ha.noStar (pos := pos)).1 (ha.wp A F G₁ s₁ _ E rm c₁ fun G₂ vs s₂ l₂ c₂ rs => k G₂ vs s₂ (l₁.trans l₂) c₂ rs))
end
end

section
open PySem PySem.W PyProof.Rows PySem.Calls PyProof.V
set_option maxHeartbeats 4000000
section
variable {D : Wd} {n : Nat} {env : Env} {L x d io di : Addr} {ns : Kinds} {cl : List (PySem.Str × Addr)} {W W' W'' : Wld}
theorem makeShlex (f : D.Fit) (z : PySem.Str) : MakeP D (n + 5) W 860 [.str z] [("posix", .bool true)] fun x W' => ∃ d io di, W' = (x, .raw (instObj 860 d)) :: (d, .attrs (shA io "#" false (.str " ") "")) :: (io, .raw (instObj 725 di)) :: (di, .attrs (ioA z 0)) :: W :=
  makeP f.kin (by kernel_rfl) (fI := 784) (by kernel_rfl) (by kernel_rfl) fun x d A F G s vs ks R rm c ra hk rk k => shlexinit_spec (n := n) f z A F G s vs ks R rm c ra hk rk fun p W' G' v s' hp l c' r => k p W' G' v s' ⟨hp.1, d, hp.2⟩ l c' r
theorem split_spec (f : D.Fit) (z : PySem.Str) (hz : z.length ≤ 1000000) {ts : List PySem.Str} (h : ToksR z 0 (.str " ") ts) (hts : ts.length ≤ 100000) {outer : List Env} (A : Around) (F G : Led) (s : Shared) (v : Value) (Q : Value → Shared → Prop) (E : Value → Shared → Prop) (rm : Room A (n + 20)) (hfr : A.frames = some outer) (hW : FramesIn outer W)
    (c : Core D F G W s) (r : Rep G v (.str z)) (k : ∀ G' v s', G.le G' → Core D F G' W s' → Rep G' v (.list (ts.map PV.str)) → Q v s') : wpAny (model D.prog D.w) A (PySem.call (.ref 872) [v]) Q E s := by
  have key : ∀ {a T : Addr} {cc : Value} {dd : Option Addr} {fd : FuncData} {sl : Array (Option Value)} {body : List Stmt} {ob : Obj}
    (e : (KK D).lookup a = some ⟨cc, dd, .func fd, sl⟩) (eT : (KK D).lookup T = some ob) (hb : fd.body = .stmts body) (hc : codeIn (KK D) fd.code fd.qualname = true) (hok : fdOk fd ["s", "comments", "posix"] = true)
    (hbind : ∀ (s : Shared) (v : Value), s.heap.get? T = some ob → BindsTo s fd ⟨[v], []⟩ [("s", v), ("comments", .bool false), ("posix", .bool true)])
    (hx : ∀ (L : Addr) (env : Env), EnvOk env L fd.scope.names [] → env.frame = some L → env.scope.kind ≠ .module → ∀ (A : Around) (F G : Led) (s : Shared) (Q : Flow → Shared → Prop) (E : Value → Shared → Prop), Room A (n + 19) → A.frames = some (env :: outer) → Core D F G ((L, .frame [("s", .str z), ("comments", .bool false), ("posix", .bool true)]) :: W) s →
      (∀ G' v s', G.le G' → Core D F G' W s' → Rep G' v (.list (ts.map PV.str)) → Q (.ret v) s') → wpAny (model D.prog D.w) A (execs body env) Q E s),
    wpAny (model D.prog D.w) A (PySem.call (.ref a) [v]) Q E s := by
    intro a T cc dd fd sl body ob e eT hb hc hok hbind hx
    obtain ⟨a1, a2, a3, a4, a5, a6, a7, a8, a9⟩ := fdOk_facts hok
    have fa := f.fn e hb hc a1 a2 a3 a4 a5 a6
    obtain ⟨ob', ho, hd⟩ := fa.ob
    refine wpAny_call (codeAny_call_def rm.d (c.keeps _ _ ho) hd (f.toOk.nolimit.keeps c.keeps) (fa.code.keeps c.keeps) fa.body (hbind s v (c.keeps _ _ (f.kin _ _ eT))) a7 ?_ (fun h₁ hns hkp => ?_) fa.co fa.gen fa.kind)
    · intro y hy
      have := List.mem_map_of_mem (f := fun q : PySem.Str × Value => q.1) hy
      exact a8 _ this
    · have eo : EnvOk (callEnv fd s.heap.objs.size a) s.heap.objs.size fd.scope.names [] := ⟨fa.kind, fun _ => rfl, rfl, fa.glob, fa.blt, fa.clos⟩
      have c₁ : Core D F G ((s.heap.objs.size, .frame [("s", .str z), ("comments", .bool false), ("posix", .bool true)]) :: W) { s with heap := h₁, toks := s.toks + 3 } :=
        c.new (Nat.le_refl _) hkp ⟨_, hns, zip_lookup (G := G) ["s", "comments", "posix"] [v, .bool false, .bool true] [.str z, .bool false, .bool true] (.cons r (.cons (.bool _) (.cons (.bool _) .nil))) a9⟩
      refine wpAny_mono (hx _ _ eo rfl (by show fd.scope.kind ≠ .module; rw [a3]; decide) _ F G _ (fun fl s' => ∃ v, fl = .ret v ∧ Q v s') (fun _ _ => False) rm.deeper (Around.frames_deeper hfr) c₁ fun G' v s' l c' r => ⟨v, rfl, k G' v s' l c' r⟩) (fun fl s' hq => ?_) fun _ _ z => z.elim
      obtain ⟨v, rfl, hq⟩ := hq
      exact hq
  refine' key (a := 872) (T := 865) ?e ?eT ?hb ?hc ?hok ?hbind ?hx
  case e => with_unfolding_all rfl
  case eT => with_unfolding_all rfl
  case hb => rfl
  case hc => kernel_rfl
  case hok => kernel_rfl
  case hbind => intro s v hT; exact BindsTo.of_defaults rfl hT rfl rfl rfl
  case hx =>
    intro L env ok hf hkm A F G s Q E rm hfr c k
    dsimp only at ok
    refine' ExecS.go (ExecS.if (b := false) ?t1 (fun h => nomatch h) fun _ => ExecR.nil) rm c fun G₁ s₁ l₁ c₁ => ?_
    case t1 => refine' TestR.is ?u1 ?u2; (case u1 => walk_at "m.test"); (case u2 => rfl)
    refine' wpAny_execs_cons (ownNewW (PJ := fun W₅ => ∃ x d io di, W₅ = (x, .raw (instObj 860 d)) :: (d, .attrs (shA io "#" false (.str " ") "")) :: (io, .raw (instObj 725 di)) :: (di, .attrs (ioA z 0)) :: (L, .frame [("s", .str z), ("comments", .bool false), ("posix", .bool true), ("lex", .con (.ref x))]) :: W)
      f.kin ?b1 ?b2 ?b3 ?b4 (KwsR.cons ?b7 KwsR.nil) ((makeShlex (n := n + 14) f z)) ?b5 ?b6 A F G₁ s₁ _ E rm c₁ fun W₅ hp G₂ s₂ l₂ c₂ => ?_)
    case b1 => with_unfolding_all rfl
    case b2 => kernel_rfl
    case b3 => walk_at "m.glob"
    case b4 => walk_at "m.evs"
    case b7 => walk_at "m.ev"
    case b6 => rfl
    case b5 =>
      rintro x W₄ ⟨d, io, di, rfl⟩
      refine' ⟨_, ?s1, x, d, io, di, rfl⟩
      case s1 => walk_at "m.store"
    obtain ⟨x, d, io, di, rfl⟩ := hp
    refine' ExecS.go (ExecS.setA f.kin (shOk f) ?e1 ?e2 ?e3 ?e4 ?e5 ?e6 ?e7 ?e8) rm c₂ fun G₃ s₃ l₃ c₃ => ?_
    case e1 => kernel_rfl
    case e2 => walk_at "m.ev"
    case e3 => walk_at "m.name"
    case e4 => walk_at "m.get"
    case e5 => walk_at "m.wput"
    case e6 => walk_at "m.put"
    case e7 => exact Nat.le_of_ble_eq_true rfl
    case e8 => rfl
    refine' ExecS.go (ExecS.if (b := true) (o := .next (rdW x d io di z (.str " ") "" 0 ((L, .frame [("s", .str z), ("comments", .bool false), ("posix", .bool true), ("lex", .con (.ref x))]) :: W))) ?t2 (fun _ => ExecK.run ?t3) (fun h => nomatch h)) rm c₃ fun G₄ s₄ l₄ c₄ => ?_
    case t2 => refine' TestR.is ?v1 ?v2; (case v1 => walk_at "m.test"); (case v2 => rfl)
    case t3 =>
      walk_at "m.xx"
      walk_at "m.nil"
      exact ExecK.done
    refine' wpAny_execs_cons (wpAny_Return_some (callNameT ?h1 ?h2 A F G₄ s₄ _ E rm c₄ fun G₅ vs s₅ l₅ c₆ rs => ?_))
    case h1 => walk_at "m.glob"
    case h2 => walk_at "m.evs"
    obtain ⟨v1, rfl, r1⟩ := RepAll.one rs
    obtain rfl := r1.con_v
    have hWf : FramesIn (env :: outer) ((L, .frame [("s", .str z), ("comments", .bool false), ("posix", .bool true), ("lex", .con (.ref x))]) :: W) := by
      intro env' hm
      rcases List.mem_cons.mp hm with rfl | hm
      · exact ⟨hkm, L, _, hf, .head _⟩
      · obtain ⟨q1, L', σ, q2, q3⟩ := hW env' hm
        exact ⟨q1, L', σ, q2, .tail _ q3⟩
    obtain ⟨Wi, j, hj, Z⟩ := shWalk (n := n) (x := x) (d := d) (io := io) (di := di) (G₀ := G₅) f hz hWf h
    have Y := shIter (n := n) (x := x) (d := d) (io := io) (di := di) (Wf := (L, .frame [("s", .str z), ("comments", .bool false), ("posix", .bool true), ("lex", .con (.ref x))]) :: W) (outer := env :: outer) (G₀ := G₅) (z := z) (st := .str " ") (i := 0) f
    refine listCallT (Wi := Wi) (hj ▸ Y) Z (by rw [List.length_map]; exact hts) A F G₅ [] s₅ _ E ⟨((rm.mono (m := n + 7) (by lia)).in1 (n := n + 6)).in1, hfr⟩ (by rw [List.append_nil, hj]; exact c₆) Led.le.rfl ⟨_, c₆.wok _ (.head _)⟩ fun G₆ v s₆ l₆ c₇ r => ?_
    rw [List.append_nil] at c₇
    exact k G₆ v s₆ (((((l₁.trans l₂).trans l₃).trans l₄).trans l₅).trans l₆) (c₇.sub (.cons _ (.cons _ (.cons _ (.cons _ (.cons _ (List.Sublist.refl _))))))) r
end
end

section
open PySem PySem.W PyProof.Rows PySem.Calls PyProof.V
section
variable {D : Wd} {n : Nat} {env cenv : Env} {L C x d : Addr} {W W' W₁ W₂ W₃ W₄ : Wld} {F G : Led} {s : Shared} {K : Frag}
theorem intsOf : ∀ {vs : List Value} {xs : List Int}, RepAll G vs (xs.map .int) → IntsAre vs xs
  | _, [], .nil => .nil
  | _, x :: xs, .cons r rs => by
    have h := intsOf rs
    obtain ⟨t, rfl⟩ := r.int_v
    exact .cons x _ h
theorem CallR.sum {xs : List Int} : CallR D n W (.builtin "sum") [.list (xs.map .int)] [] (.int xs.sum) W := CallR.of1 fun A F G W s a Q E rm c r k => by
  obtain ⟨l, o, vs, m, rfl, g, hc, hd, rs⟩ := r.list_v
  have hl : s.heap.IsList l vs.toArray := ⟨o, c.inn _ _ g, hc, m, hd⟩
  have hi := intsOf rs
  obtain ⟨ys, hy⟩ := hi.allInts.items
  rw [hy] at hl
  refine sum_intListG rm.handled hl fun h' tk t' hk => ?_
  have e : preSum (numAt ys) ys.size = xs.sum := by
    have h1 := hi.numsOf
    have h2 := nums_intItems ys
    rw [← hy] at h2
    rw [preSum_eq, List.take_of_length_le (by simp), ← h2]
    exact congrArg List.sum h1
  rw [e]
  exact k G _ _ Led.le.rfl (c.grow hk) (.int _ _)
theorem CallR.bytesI {xs : List Int} (hr : ∀ n ∈ xs, 0 ≤ n ∧ n < 256) (hz : xs.length ≤ 1000000) : CallR D n W (.type "bytes") [.list (xs.map .int)] [] (.bytes (byteArr xs)) W := CallR.of1 fun A F G W s a Q E rm c r k => by
  obtain ⟨l, o, vs, m, rfl, g, hc, hd, rs⟩ := r.list_v
  have hl : s.heap.IsList l vs.toArray := ⟨o, c.inn _ _ g, hc, m, hd⟩
  have hi := intsOf rs
  exact call_bytes_ints hl hi hr (by rw [hi.length, sizeLine_eq]; lia) rm.handled fun h' t k' hk => k G _ _ Led.le.rfl (c.grow hk) (.bytes _ _)
theorem OpR.neb {p q : Bool} : OpR D n (compareOp .NotEq) (.bool p) (.bool q) (.bool (!(p == q))) := fun A F G W s a b Q E rm c rx ry k => by
  obtain rfl := Rep.bool_v rx; obtain rfl := Rep.bool_v ry
  exact PySem.SeqAt.RcNeAt.bool_bool p q D.prog D.w E Q (k G _ _ Led.le.rfl c (.bool _))
theorem OpR.neln : OpR D (n + 4) (compareOp .NotEq) (.list []) (.list []) (.bool false) := fun A F G W s a b Q E rm c rx ry k => by
  obtain ⟨l, o, vs, m, rfl, g, hc, hd, rs⟩ := rx.list_v
  obtain ⟨l', o', vs', m', rfl, g', hc', hd', rs'⟩ := ry.list_v
  obtain rfl := rs.nil_v; obtain rfl := rs'.nil_v
  have hl : s.heap.IsList l ([] : List Value).toArray := ⟨o, c.inn _ _ g, hc, m, hd⟩
  have hl' : s.heap.IsList l' ([] : List Value).toArray := ⟨o', c.inn _ _ g', hc', m', hd'⟩
  have hu : A.units + 64 < cLine := by have := rm.units; lia
  exact ke_ne_ints hl hl' .nil .nil hu (k G _ _ Led.le.rfl c (.bool _))
theorem OpR.eqls {x : PySem.Str} (hx : PyData.strOk x = true) : OpR D (n + 4) (compareOp .Eq) (.list [.str x]) (.list [.str x]) (.bool true) := fun A F G W s a b Q E rm c rx ry k => by
  obtain ⟨l, o, vs, m, rfl, g, hc, hd, rs⟩ := rx.list_v
  obtain ⟨l', o', vs', m', rfl, g', hc', hd', rs'⟩ := ry.list_v
  obtain ⟨v1, rfl, r1⟩ := RepAll.one rs
  obtain ⟨v2, rfl, r2⟩ := RepAll.one rs'
  obtain ⟨t, rfl⟩ := r1.str_v; obtain ⟨t', rfl⟩ := r2.str_v
  have hu : A.units + 64 < cLine := by have := rm.units; lia
  have hl : s.heap.IsList l [Value.str x t].toArray := ⟨o, c.inn _ _ g, hc, m, hd⟩
  have hl' : s.heap.IsList l' [Value.str x t'].toArray := ⟨o', c.inn _ _ g', hc', m', hd'⟩
  refine eq_dataH_same (reads_newData hl (ds := [.str x]) ?_) (reads_newData hl' (ds := [.str x]) ?_) (by simp [SeqAt.shaped, PyData.canLay0, PyData.canLayAll0, PyData.depth, PyData.depthAll, hx]) (by simp [SeqAt.shaped, PyData.canLay0, PyData.canLayAll0, PyData.depth, PyData.depthAll, hx]) hu (SeqAt.noMix_of_shape (.list .str) rfl _ _ rfl rfl) ?_
  · exact .cons (.str _ _) .nil
  · exact .cons (.str _ _) .nil
  · have e : PySem.Spec.same (.list [.str x]) (.list [.str x]) = true := by simp [PySem.Spec.same, PySem.Spec.sameAll]
    rw [e]
    exact k G _ _ Led.le.rfl c (.bool _)
end
end

section
open PySem PySem.W PyProof.Rows PySem.Calls PyProof.V
section
variable {D : Wd} {n : Nat} {env cenv : Env} {L C x d : Addr} {ns : Kinds} {cl : List (PySem.Str × Addr)} {W W' W₁ W₂ W₃ W₄ : Wld} {F G : Led} {s : Shared} {K : Frag}
theorem own3W {ts : List Expr} {k' k'' : Nat} {tpos vpos lp pos : Pos} {e₁ e₂ : Expr} {es : List Expr} {p₁ p₂ : PV} {ps : List PV} {Wj : Addr → Wld} (h1 : EvalR D n env W e₁ p₁ W₁) (h2 : EvalR D n env W₁ e₂ p₂ W₂) (h3 : EvalsR D n env W₂ es ps W₃) (hz : es.length ≤ 1000)
    (h4 : ∀ a, AssignR D n env ((a, .lst ps) :: W₃) (Expr.Tuple ts k' tpos) (.tup [p₁, p₂, .con (.ref a)]) (Wj a))
    (he1 : starEach [e₁, e₂, .List es lp] env = (false, eval e₁ env) :: starEach [e₂, .List es lp] env) (he2 : starEach [e₂, .List es lp] env = (false, eval e₂ env) :: starEach [.List es lp] env) (he3 : starEach [.List es lp] env = (false, eval (.List es lp) env) :: starEach [] env)
    (hs : swapsWithSole [Expr.Tuple ts k' tpos] (.Tuple [e₁, e₂, .List es lp] k'' vpos) pos.line env = pure false) (hw : swappedStores [Expr.Tuple ts k' tpos] (.Tuple [e₁, e₂, .List es lp] k'' vpos) env = pure none)
    (A : Around) (F G : Led) (s : Shared) (Q : Flow → Shared → Prop) (E : Value → Shared → Prop) (rm : Room A n) (c : Core D F G W s) (k : ∀ a G' s', G.le G' → Core D F G' (Wj a) s' → Q .next s') :
    wpAny (model D.prog D.w) A (exec (.Assign [Expr.Tuple ts k' tpos] (.Tuple [e₁, e₂, .List es lp] k'' vpos) pos) env) Q E s := by
  refine wpAny_Assign_stores ?_ hs hw
  refine wpAny_Tuple (wpAny_items_cons (h1 A F G s _ E rm c fun G₁ v₁ s₁ l₁ c₁ r₁ => wpAny_items_cons (h2 A F G₁ s₁ _ E rm c₁ fun G₂ v₂ s₂ l₂ c₂ r₂ => wpAny_items_cons (evalOwnList h3 hz A F G₂ s₂ _ E rm c₂ fun G₃ a s₃ l₃ c₃ => wpAny_items_nil ⟨show 3 ≤ sizeLine by decide, ?_⟩) he3) he2) he1)
  have c₄ := c₃.made (ob := { cls := .type "tuple", data := .seq [v₁, v₂, Value.ref a].toArray }) rfl
  show wpAny _ _ (PySem.assign (Expr.Tuple ts k' tpos) env _) _ _ _
  refine h4 a A F _ _ _ _ E rm c₄ (.tup (.inr ⟨rfl, rfl⟩) rfl rfl (.cons (((r₁.mono l₂).mono l₃).mono Led.le_add) (.cons ((r₂.mono l₃).mono Led.le_add) (.cons (.con _) .nil)))) fun s₅ c₅ => ?_
  exact k a _ s₅ (((l₁.trans l₂).trans l₃).trans Led.le_add) c₅
theorem iterW {y : PySem.Str} {p pos' pos cpos : Pos} {e : Expr} {b : Array UInt8} {Wj : Addr → Wld} (hf : EvalR D n env W (.Name "iter" p) (.con (.builtin "iter")) W₁) (ha : EvalsR D n env W₁ [e] [.bytes b] W₂) (h4 : ∀ it, StoreR D env ((it, .biter b 0) :: W₂) y (.con (.ref it)) (Wj it))
    (hsw : swapsWith (.Call (.Name "iter" p) [e] [] cpos) (some (.Name y pos')) pos.line env = pure false)
    (A : Around) (F G : Led) (s : Shared) (Q : Flow → Shared → Prop) (E : Value → Shared → Prop) (rm : Room A n) (c : Core D F G W s) (k : ∀ it G' s', G.le G' → Core D F G' (Wj it) s' → Q .next s') :
    wpAny (model D.prog D.w) A (exec (.Assign [.Name y pos'] (.Call (.Name "iter" p) [e] [] cpos) pos) env) Q E s := by
  refine wpAny_Assign_Name (wpAny_Call_NameR (hf A F G s _ E rm c fun G₁ fv s₁ l₁ c₁ rf => ?_)) hsw
  obtain rfl := Rep.con_v rf
  refine callWith_flat (fun a e => by cases e) (ha.noStar (pos := cpos)).1 (evalArgs_of (ha.noStar (pos := cpos)).1 (ha.wp A F G₁ s₁ _ E rm c₁ fun G₂ vs s₂ l₂ c₂ rs => ?_))
  obtain ⟨v1, rfl, r1⟩ := RepAll.one rs
  refine CallR.iterb A E _ c₂ r1 fun it s₃ c₃ => ?_
  exact h4 it A F G₂ s₃ (.ref it) _ E c₃ (.con _) fun s₄ c₄ => k it G₂ s₄ (l₁.trans l₂) c₄
end
end

section

end

section
open PySem PySem.W PyProof.Rows PySem.Calls PyProof.V
set_option maxHeartbeats 1000000
noncomputable def drawnP (script : List Int) : List Int := script.take 6 ++ [15, 43, 140, 41].drop script.length
noncomputable def sidesP (i : Int) : PySem.Str := Txt.slice (Txt.slice "a'b \"#a" (some i) none) none (some 2)
noncomputable def wishD (x : Int) : Int := 10 - (x.fmod 4096).fmod 11
noncomputable def wishS (x : Int) : Nat := 2 ^ ((x.fmod 4096).fmod 11).toNat
noncomputable def namesP : List PySem.Str := (["OPTIMIZED", "NEWLOCALS", "VARARGS", "VARKEYWORDS", "NESTED", "GENERATOR", "NOFREE", "COROUTINE"] : List PySem.Str) ++ (["ITERABLE_COROUTINE", "ASYNC_GENERATOR"] : List PySem.Str)
noncomputable def flagsP (free : List PySem.Str) : List PySem.Str := free.map fun y => namesP.getD (10 - depthP y) ""
noncomputable def orP (y : PySem.Str) : PySem.Str := if (y.length != 0) = true then y else "0x0"
structure FreeOk (free : List PySem.Str) (left : Nat) : Prop where
  num : free.length ≤ 100
  len : ∀ y ∈ free, y.length ≤ 100
  dep : ∀ y ∈ free, 1 ≤ depthP y ∧ depthP y ≤ 10
  lt : left < 1024
  flags : orP (Txt.join ", " (flagsP free)) = prettyP left
inductive LoopR (s0 s1 : PySem.Str) : List Int → List PySem.Str → Nat → List PySem.Str → List PySem.Str → List PySem.Str → Prop
  | nil {free given : List PySem.Str} {left : Nat} : LoopR s0 s1 [] free left given free given
  | some {x : Int} {xs : List Int} {free given free' given' : List PySem.Str} {left k m : Nat} {y : PySem.Str} : (∀ y ∈ free, y.length ≤ 1000) → free.length ≤ 1000 → free[k]? = some y → (∀ j < k, ∀ z, free[j]? = some z → ¬ ((depthP z : Int) ≤ wishD x)) → wishD x = depthP y + m → wishS x ≤ left → given.length ≤ 100 →
      FreeOk (free.take k ++ (growN s0 s1 y m).2 ++ free.drop (k + 1)) (left - wishS x) → LoopR s0 s1 xs (free.take k ++ (growN s0 s1 y m).2 ++ free.drop (k + 1)) (left - wishS x) (given ++ [(growN s0 s1 y m).1]) free' given' → LoopR s0 s1 (x :: xs) free left given free' given'
  | none {x : Int} {xs : List Int} {free given free' given' : List PySem.Str} {left : Nat} : (∀ y ∈ free, y.length ≤ 1000) → free.length ≤ 1000 → (∀ y ∈ free, ¬ ((depthP y : Int) ≤ wishD x)) → left < wishS x → FreeOk free left → LoopR s0 s1 xs free left given free' given' → LoopR s0 s1 (x :: xs) free left given free' given'
inductive BackL (s0 s1 : PySem.Str) : List PySem.Str → List PySem.Str → List PySem.Str → Prop
  | nil {free : List PySem.Str} : BackL s0 s1 free [] free
  | cons {free free' r ps : List PySem.Str} {p : PySem.Str} : BackR s0 s1 free p free' → BackL s0 s1 free' ps r → BackL s0 s1 free (p :: ps) r
structure ApartP (x y : PySem.Str) : Prop where
  lx : x.length ≤ 5000
  ly : y.length ≤ 5000
  sx : Txt.startswith x "/" = true
  sy : Txt.startswith y "/" = true
  part : ∃ (d : Nat) (a b : PySem.Str), PartS (compsP x) (compsP y) d a b ∧ (((compsP x).take d).map (·.length)).sum + ((compsP x).take d).length * ("/" : PySem.Str).length ≤ 100000 ∧ (Txt.join "/" ((compsP x).take d)).length ≤ 1000000 ∧
    (("/" ++ Txt.join "/" ((compsP x).take d)) == x) = false ∧ (("/" ++ Txt.join "/" ((compsP x).take d)) == y) = false
structure LawOk (script : List Int) : Prop where
  sides : (sidesP ((drawnP script).sum.fmod 6)).length = 2
  loop : ∃ free given, LoopR (Txt.item (sidesP ((drawnP script).sum.fmod 6)) 0) (Txt.item (sidesP ((drawnP script).sum.fmod 6)) 1) (drawnP script) ["/"] 1024 [] free given ∧
    given.length ≤ (drawnP script).length ∧ (∀ (i j : Nat) (x y : PySem.Str), i < j → given[i]? = some x → given[j]? = some y → ApartP x y) ∧
    (∀ x ∈ (ordS (drawnP script) given given.length).1, 0 < x.cps.size ∧ x.length ≤ 100 ∧ (∀ c ∈ x.cps, c ∈ alph) ∧ (Txt.replace x "'" "'\"'\"'").length ≤ 1000) ∧
    (Txt.join " " ((ordS (drawnP script) given given.length).1.map quoteP)).length ≤ 1000000 ∧ (((ordS (drawnP script) given given.length).1.map quoteP).map (·.length)).sum + ((ordS (drawnP script) given given.length).1.map quoteP).length * (" " : PySem.Str).length ≤ 16777216 ∧
    ToksR (Txt.join " " ((ordS (drawnP script) given given.length).1.map quoteP)) 0 (.str " ") (ordS (drawnP script) given given.length).1 ∧
    BackL (Txt.item (sidesP ((drawnP script).sum.fmod 6)) 0) (Txt.item (sidesP ((drawnP script).sum.fmod 6)) 1) free (ordS (drawnP script) given given.length).1 ["/"]
section
variable {D : Wd} {n : Nat} {W W' : Wld}
theorem callLaw (f : D.Fit) (a : Addr) {c : Value} {d : Option Addr} {fd : FuncData} {sl : Array (Option Value)} {body : List Stmt} {as : List PV} {p : PV} (xs : List PySem.Str) (cl : Addr → List (PySem.Str × Addr))
    (e : (KK D).lookup a = some ⟨c, d, .func fd, sl⟩) (hb : fd.body = .stmts body) (hc : codeIn (KK D) fd.code fd.qualname = true) (hok : fdOkC fd xs = true)
    (hbind : ∀ vs : List Value, vs.length = as.length → bindArgs fd ⟨vs, []⟩ = pure (xs.zip vs)) (hcl : ∀ L : Addr, cellsFrom (L + 1) fd.scope.names [] = cl L)
    (hlk : ∀ L : Addr, ∀ p ∈ cl L, (cl L).lookup p.1 = some p.2)
    (h : ∀ (L : Addr) (env : Env), EnvOk env L fd.scope.names (cl L) → env.frame = some L → env.scope.kind ≠ .module → ∀ (A : Around) (F G : Led) (s : Shared) (Q : Flow → Shared → Prop) (E : Value → Shared → Prop), Room A n → A.frames = some [env] → Core D F G (((L, .frame (xs.zip as)) :: (cl L).map fun p => (p.2, MO.cell none)) ++ W) s →
      (∀ G' v s', G.le G' → Core D F G' W s' → Rep G' v p → Q (.ret v) s') → wpAny (model D.prog D.w) A (execs body env) Q E s)
    (A : Around) (F G : Led) (s : Shared) (vs : List Value) (Q : Value → Shared → Prop) (E : Value → Shared → Prop) (rm : Room A (n + 1)) (hfr : A.frames = some []) (co : Core D F G W s) (ra : RepAll G vs as) (k : ∀ G' v s', G.le G' → Core D F G' W s' → Rep G' v p → Q v s') :
    wpAny (model D.prog D.w) A (PySem.call (.ref a) vs) Q E s := by
  unfold fdOkC at hok
  simp only [Bool.and_eq_true, Bool.not_eq_true', decide_eq_true_eq, List.all_eq_true, List.isEmpty_iff] at hok
  obtain ⟨⟨⟨⟨⟨⟨⟨a1, a2⟩, a3⟩, a4⟩, a5⟩, a6⟩, a8⟩, hnd⟩ := hok
  have fa := f.fn e hb hc a1 a2 a3 a4 a5 a6
  obtain ⟨ob, ho, hd⟩ := fa.ob
  have hl : ∀ x ∈ xs.zip vs, fd.scope.names.lookup x.1 = some .local := fun x hx => a8 _ (List.of_mem_zip (a := x.1) (b := x.2) hx).1
  refine wpAny_call (codeAny_call_cells (binds := xs.zip vs) rm.d (co.keeps _ _ ho) hd (f.toOk.nolimit.keeps co.keeps) (fa.code.keeps co.keeps) fa.body (hbind vs ra.length) fa.clos (fun x hx => .inl (hl x hx)) (fun s₁ hi => ?_) fa.co fa.gen fa.kind)
  have eo : EnvOk (callEnvC fd s.heap.objs.size a) s.heap.objs.size fd.scope.names (cl s.heap.objs.size) := ⟨fa.kind, fun _ => rfl, rfl, fa.glob, fa.blt, hcl _⟩
  have ek : ∀ x ∈ xs.zip vs, (callEnvC fd s.heap.objs.size a).kindOf x.1 = some .local := hl
  rw [bindC_local _ _ ek] at hi
  obtain ⟨h', tk, es⟩ := hi.toInCall.same
  subst es
  have hkp := hi.toInCall.keep
  have hcells : (callEnvC fd s.heap.objs.size a).cells = cl s.heap.objs.size := hcl _
  have c₁ : Core D F G (((s.heap.objs.size, .frame (xs.zip as)) :: (cl s.heap.objs.size).map fun p => (p.2, MO.cell none)) ++ W) { s with heap := h', toks := tk } := by
    refine co.news _ hkp ?_ ?_ ?_
    · intro p hp
      rcases List.mem_cons.mp hp with rfl | hp
      · exact Nat.le_refl _
      · obtain ⟨q, hq, rfl⟩ := List.mem_map.mp hp
        exact Nat.le_of_lt (hi.above q.1 q.2 (hcells ▸ hq))
    · rw [List.map_cons, List.nodup_cons]
      constructor
      · intro hm
        obtain ⟨p, hp, e⟩ := List.mem_map.mp hm
        obtain ⟨q, hq, rfl⟩ := List.mem_map.mp hp
        have h1 : s.heap.objs.size < q.2 := hi.above q.1 q.2 (hcells ▸ hq)
        have h2 : q.2 = s.heap.objs.size := e
        rw [h2] at h1
        exact Nat.lt_irrefl _ h1
      · rw [List.map_map]
        have := hi.apart
        rw [hcells] at this
        exact List.pairwise_map.mpr this
    · intro p hp
      rcases List.mem_cons.mp hp with rfl | hp
      · refine ⟨_, hi.toInCall.ns, fun x q e => ?_⟩
        obtain ⟨v, e1, e2⟩ := zip_lookup xs vs as ra hnd x q e
        refine ⟨v, ?_, e2⟩
        rw [bindL_local _ _ ek, e1]
      · obtain ⟨q, hq, rfl⟩ := List.mem_map.mp hp
        exact ⟨none, hi.cell q.1 q.2 (by rw [hcells]; exact hlk _ q hq), fun q e => nomatch e⟩
  refine wpAny_mono (h _ _ eo rfl (by show fd.scope.kind ≠ .module; rw [a3]; decide) _ F G _ (fun fl s' => ∃ v, fl = .ret v ∧ Q v s') (fun _ _ => False) rm.deeper (Around.frames_deeper hfr) c₁ fun G' v s' l c' rv => ⟨v, rfl, k G' v s' l c' rv⟩) (fun fl s' hq => ?_) fun _ _ e => e.elim
  obtain ⟨v, rfl, hq⟩ := hq
  exact hq
end
end

section
open PySem PySem.W PyProof.Rows PySem.Calls PyProof.V
set_option maxHeartbeats 1000000
section
variable {D : Wd} {n : Nat} {W W' : Wld}
noncomputable def octs (x : Int) : List Int := if x.fmod 4096 < 64 then [x.fmod 4096] else [64 + (x.fmod 4096).fdiv 64, (x.fmod 4096).fmod 64]
noncomputable def octI (p : PV) : List PV := match p with | .int x => (octs x).map .int | _ => []
theorem octs_small (x : Int) : ∀ n ∈ octs x, 0 ≤ n ∧ n < 256 := by
  intro n hn
  have h1 := Int.fmod_lt_of_pos x (b := 4096) (by lia)
  have h2 := Int.fmod_nonneg_of_pos x (b := 4096) (by lia)
  unfold octs at hn
  split at hn
  · simp only [List.mem_cons, List.not_mem_nil, or_false] at hn; lia
  · simp only [List.mem_cons, List.not_mem_nil, or_false] at hn
    have h3 := Int.fmod_lt_of_pos (x.fmod 4096) (b := 64) (by lia)
    have h4 := Int.fmod_nonneg_of_pos (x.fmod 4096) (b := 64) (by lia)
    have h5 : (x.fmod 4096).fdiv 64 = (x.fmod 4096) / 64 := Int.fdiv_eq_ediv_of_nonneg _ (by lia)
    rcases hn with rfl | rfl
    · rw [h5]; lia
    · lia
theorem octs_len (x : Int) : (octs x).length ≤ 2 := by unfold octs; split <;> simp
theorem oct_flat (xs : List Int) : ((xs.map PV.int).flatMap fun p => (octI p).map fun q => q) = (xs.flatMap octs).map .int := by
  induction xs with
  | nil => rfl
  | cons x xs ih => rw [List.map_cons, List.flatMap_cons, List.flatMap_cons, List.map_append, ih]; simp [octI]
theorem flat_len (xs : List Int) : (xs.flatMap octs).length ≤ 2 * xs.length := by
  induction xs with
  | nil => simp
  | cons x xs ih => rw [List.flatMap_cons, List.length_append, List.length_cons]; have := octs_len x; lia
theorem octets_c (f : D.Fit) {x : Int} {l : List PV} (hl : l = (octs x).map .int) (hn : 1 ≤ n) : CallR D n W (.ref 887) [.int (x.fmod 4096)] [] (.list l) W := by
  have h := ((octets_spec (n := 0) f (x.fmod 4096)).mono hn).lift (W := W)
  have e : l = (if x.fmod 4096 < 64 then [PV.int (x.fmod 4096)] else [.int (64 + (x.fmod 4096).fdiv 64), .int ((x.fmod 4096).fmod 64)]) := by
    rw [hl]; unfold octs; split <;> rfl
  rw [e]
  exact h
theorem u8nat {q : Int} (h0 : 0 ≤ q) (h1 : q < 256) : (q.toNat.toUInt8).toNat = q.toNat := by
  have : q.toNat < 256 := by lia
  simp [Nat.toUInt8, UInt8.toNat_ofNat', Nat.mod_eq_of_lt this]
theorem varint_c (f : D.Fit) {it : Addr} {b : Array UInt8} (Wt : Nat → Wld) (hW : ∀ i j, WPut (Wt i) it (.biter b i) (.biter b j) (Wt j)) {x : Int} {i : Nat} (hv : ∀ k q, (octs x)[k]? = some q → b[i + k]? = some q.toNat.toUInt8) :
    CallR D (n + 1) (Wt i) (.ref 59) [.con (.ref it)] [] (.int (x.fmod 4096)) (Wt (i + (octs x).length)) := by
  have h1 := Int.fmod_lt_of_pos x (b := 4096) (by lia)
  have h2 := Int.fmod_nonneg_of_pos x (b := 4096) (by lia)
  by_cases hx : x.fmod 4096 < 64
  · have e : octs x = [x.fmod 4096] := if_pos hx
    rw [e] at hv ⊢
    have hb := hv 0 _ rfl
    have hu := u8nat h2 (by lia)
    have := varint1 (n := n) f (hW i (i + 1)) hb (by rw [hu]; lia)
    rw [hu] at this
    rwa [Int.toNat_of_nonneg h2] at this
  · have e : octs x = [64 + (x.fmod 4096).fdiv 64, (x.fmod 4096).fmod 64] := if_neg hx
    rw [e] at hv ⊢
    have h3 := Int.fmod_lt_of_pos (x.fmod 4096) (b := 64) (by lia)
    have h4 := Int.fmod_nonneg_of_pos (x.fmod 4096) (b := 64) (by lia)
    have h5 : (x.fmod 4096).fdiv 64 = (x.fmod 4096) / 64 := Int.fdiv_eq_ediv_of_nonneg _ (by lia)
    have h6 : (x.fmod 4096).fmod 64 = (x.fmod 4096) % 64 := Int.fmod_eq_emod_of_nonneg _ (by lia)
    have hb := hv 0 _ rfl
    have hb2 := hv 1 _ rfl
    have hu := u8nat (q := 64 + (x.fmod 4096).fdiv 64) (by lia) (by lia)
    have hu2 := u8nat (q := (x.fmod 4096).fmod 64) h4 (by lia)
    have := varint2 (n := n) f (hW i (i + 1)) (hW (i + 1) (i + 1 + 1)) hb hb2 ((x.fmod 4096).fdiv 64).toNat (by rw [hu]; lia) (by lia) (by rw [hu2]; lia)
    rw [hu2] at this
    have ev : ((((x.fmod 4096).fdiv 64).toNat * 64 + ((x.fmod 4096).fmod 64).toNat : Nat) : Int) = x.fmod 4096 := by lia
    rw [ev] at this
    exact this
end
end

section
open PySem PySem.W PyProof.Rows PySem.Calls PyProof.V
set_option maxHeartbeats 1000000
section
variable {D : Wd} {n : Nat} {env : Env} {W W' : Wld}
noncomputable def OctsAt (b : Array UInt8) (i : Nat) (xs : List Int) : Prop := ∀ k q, (xs.flatMap octs)[k]? = some q → b[i + k]? = some q.toNat.toUInt8
theorem OctsAt.head {b : Array UInt8} {i : Nat} {x : Int} {xs : List Int} (h : OctsAt b i (x :: xs)) : ∀ k q, (octs x)[k]? = some q → b[i + k]? = some q.toNat.toUInt8 := fun k q e => h k q (by
  rw [List.flatMap_cons, List.getElem?_append_left (List.getElem?_eq_some_iff.mp e).1]; exact e)
theorem OctsAt.tail {b : Array UInt8} {i : Nat} {x : Int} {xs : List Int} (h : OctsAt b i (x :: xs)) : OctsAt b (i + (octs x).length) xs := fun k q e => by
  have := h ((octs x).length + k) q (by rw [List.flatMap_cons, List.getElem?_append_right (by omega), Nat.add_sub_cancel_left]; exact e)
  rwa [← Nat.add_assoc] at this
theorem loopFor {target : Expr} {body : List Stmt} {s0 s1 : PySem.Str} {b : Array UInt8} (Wl : List PySem.Str → Nat → List PySem.Str → Nat → Wld)
    (hsome : ∀ (x : Int) (free given : List PySem.Str) (left k m i : Nat) (y : PySem.Str), (∀ y ∈ free, y.length ≤ 1000) → free.length ≤ 1000 → free[k]? = some y → (∀ j < k, ∀ z, free[j]? = some z → ¬ ((depthP z : Int) ≤ wishD x)) → wishD x = depthP y + m → wishS x ≤ left → given.length ≤ 100 →
      FreeOk (free.take k ++ (growN s0 s1 y m).2 ++ free.drop (k + 1)) (left - wishS x) → (∀ k q, (octs x)[k]? = some q → b[i + k]? = some q.toNat.toUInt8) →
      ∃ W₁, AssignR D n env (Wl free left given i) target (.int x) W₁ ∧ ExecR D n env W₁ body (.next (Wl (free.take k ++ (growN s0 s1 y m).2 ++ free.drop (k + 1)) (left - wishS x) (given ++ [(growN s0 s1 y m).1]) (i + (octs x).length))))
    (hnone : ∀ (x : Int) (free given : List PySem.Str) (left i : Nat), (∀ y ∈ free, y.length ≤ 1000) → free.length ≤ 1000 → (∀ y ∈ free, ¬ ((depthP y : Int) ≤ wishD x)) → left < wishS x → FreeOk free left → (∀ k q, (octs x)[k]? = some q → b[i + k]? = some q.toNat.toUInt8) →
      ∃ W₁, AssignR D n env (Wl free left given i) target (.int x) W₁ ∧ ExecR D n env W₁ body (.next (Wl free left given (i + (octs x).length))))
    {xs : List Int} {free given free' given' : List PySem.Str} {left : Nat} (h : LoopR s0 s1 xs free left given free' given') : ∀ i, OctsAt b i xs → ∃ left' i', ForR D n env target body [] (Wl free left given i) (xs.map .int) (.next (Wl free' left' given' i')) := by
  induction h with
  | nil => exact fun i _ => ⟨_, i, .done ExecR.nil⟩
  | some h1 h2 h3 h4 h5 h6 h7 h8 _ ih =>
    intro i ho
    obtain ⟨l', i', hf⟩ := ih _ ho.tail
    obtain ⟨W₁, ha, hx⟩ := hsome _ _ _ _ _ _ i _ h1 h2 h3 h4 h5 h6 h7 h8 ho.head
    exact ⟨l', i', .next ha hx hf⟩
  | none h1 h2 h3 h4 h5 _ ih =>
    intro i ho
    obtain ⟨l', i', hf⟩ := ih _ ho.tail
    obtain ⟨W₁, ha, hx⟩ := hnone _ _ _ _ i h1 h2 h3 h4 h5 ho.head
    exact ⟨l', i', .next ha hx hf⟩
end
end

section
open PySem PySem.W PyProof.Rows PySem.Calls PyProof.V
set_option maxHeartbeats 1000000
theorem slash_eq : ("/" : PySem.Str) = ⟨#[47]⟩ := by decide +kernel
theorem ext_list {a b : PySem.Str} (h : a.cps.toList = b.cps.toList) : a = b := PySem.Str.ext' (Array.toList_inj.mp h)
theorem len_list (a : PySem.Str) : a.length = a.cps.toList.length := by simp [PySem.Str.length]
theorem app_list (a b : PySem.Str) : (a ++ b).cps.toList = a.cps.toList ++ b.cps.toList := by rw [PySem.Str.cps_append, Array.toList_append]
noncomputable def S1 (c : Nat) : PySem.Str := ⟨#[c]⟩
theorem S1_list (c : Nat) : (S1 c).cps.toList = [c] := rfl
noncomputable def mkS (l : List Nat) : PySem.Str := ⟨l.toArray⟩
theorem S1_inj {a b : Nat} (h : S1 a = S1 b) : a = b := by
  have := congrArg (fun s : PySem.Str => s.cps.toList) h
  simpa [S1] using this
structure Signs (c : Bool → Nat) : Prop where
  ne : c false ≠ c true
  al : ∀ b, c b ∈ [97, 98, 39, 32, 34, 35]
section
variable {c : Bool → Nat}
theorem Signs.inj (h : Signs c) {a b : Bool} (e : c a = c b) : a = b := by
  cases a <;> cases b <;> first | rfl | exact absurd e h.ne | exact absurd e.symm h.ne
theorem Signs.n47 (h : Signs c) (b : Bool) : c b ≠ 47 := fun e => by
  have := h.al b; rw [e] at this; simp at this
theorem Signs.n46 (h : Signs c) (b : Bool) : c b ≠ 46 := fun e => by
  have := h.al b; rw [e] at this; simp at this
theorem Signs.alph (h : Signs c) (b : Bool) : c b ∈ alph := by
  have := h.al b
  simp only [List.mem_cons, List.not_mem_nil, or_false] at this
  unfold Mine.alph
  rcases this with e | e | e | e | e | e <;> rw [e] <;> decide
noncomputable def plN (c : Bool → Nat) : Path → List Nat
  | [] => []
  | b :: r => plN c r ++ [47, c b]
noncomputable def plS (c : Bool → Nat) : Path → PySem.Str
  | [] => ⟨#[47]⟩
  | b :: r => mkS (plN c (b :: r))
theorem plN_len : ∀ r, (plN c r).length = 2 * r.length
  | [] => rfl
  | b :: r => by rw [plN, List.length_append, plN_len r]; simp; lia
theorem plS_cons (b : Bool) (r : Path) : (plS c (b :: r)).cps.toList = plN c r ++ [47, c b] := rfl
theorem plS_len (r : Path) : (plS c r).length = if r = [] then 1 else 2 * r.length := by
  cases r with
  | nil => rfl
  | cons b r => rw [len_list, plS_cons, List.length_append, plN_len]; simp; lia
theorem plS_le (r : Path) : (plS c r).length ≤ 2 * r.length + 1 := by rw [plS_len]; split <;> lia
theorem plS_pos (r : Path) : 0 < (plS c r).length := by
  rw [plS_len]; split
  · lia
  · rename_i h; have := List.length_pos_iff.mpr h; lia
theorem plN_alph (h : Signs c) : ∀ r, ∀ k ∈ plN c r, k ∈ alph
  | [], k, hk => by cases hk
  | b :: r, k, hk => by
    rcases List.mem_append.mp hk with hk | hk
    · exact plN_alph h r k hk
    · simp only [List.mem_cons, List.not_mem_nil, or_false] at hk
      rcases hk with rfl | rfl
      · decide
      · exact h.alph b
theorem plS_alph (h : Signs c) (r : Path) : ∀ k ∈ (plS c r).cps.toList, k ∈ alph := by
  cases r with
  | nil => intro k hk; have : k = 47 := by simpa [plS] using hk
           subst this; decide
  | cons b r => exact plN_alph h (b :: r)
theorem plN_inj (h : Signs c) : ∀ {r r' : Path}, plN c r = plN c r' → r = r'
  | [], [], _ => rfl
  | [], b :: r, e => by have := congrArg List.length e; simp [plN] at this
  | b :: r, [], e => by have := congrArg List.length e; simp [plN] at this
  | b :: r, b' :: r', e => by
    have h1 := List.append_inj' (s₁ := plN c r) (t₁ := [47, c b]) (s₂ := plN c r') (t₂ := [47, c b']) e rfl
    have h2 := h1.2
    simp only [List.cons.injEq, and_true, true_and] at h2
    rw [plN_inj h h1.1, h.inj h2]
theorem plS_inj (h : Signs c) {r r' : Path} (e : plS c r = plS c r') : r = r' := by
  cases r with
  | nil =>
    cases r' with
    | nil => rfl
    | cons b r' => have := congrArg PySem.Str.length e; rw [plS_len, plS_len] at this; simp at this; lia
  | cons b r =>
    cases r' with
    | nil => have := congrArg PySem.Str.length e; rw [plS_len, plS_len] at this; simp at this; lia
    | cons b' r' => exact plN_inj h (congrArg (fun s : PySem.Str => s.cps.toList) e)
theorem starts_one (x : PySem.Str) (k : Nat) : Txt.startswith x ⟨#[k]⟩ = (x.cps.toList[0]? == some k) := by
  have h := StrLaws.subAt_one x k 0
  unfold Txt.startswith
  rw [Bool.eq_iff_iff, Bool.and_eq_true, decide_eq_true_eq, beq_iff_eq]
  exact h
theorem ends_one (x : PySem.Str) (k : Nat) (hx : 0 < x.length) : Txt.endswith x ⟨#[k]⟩ = (x.cps.toList[x.length - 1]? == some k) := by
  have h := StrLaws.subAt_one x k (x.length - 1)
  have e : (⟨#[k]⟩ : PySem.Str).length = 1 := rfl
  unfold Txt.endswith
  rw [Bool.eq_iff_iff, Bool.and_eq_true, decide_eq_true_eq, beq_iff_eq, ← h, e]
  constructor
  · exact fun ⟨_, b⟩ => ⟨by lia, b⟩
  · exact fun ⟨_, b⟩ => ⟨by lia, b⟩
theorem join_place (h : Signs c) (b : Bool) (r : Path) : joinP (plS c r) (S1 (c b)) = plS c (b :: r) := by
  have h1 : Txt.startswith (S1 (c b)) "/" = false := by
    rw [slash_eq, starts_one, S1_list]
    simpa using h.n47 b
  have h2 : (!((plS c r).length != 0)) = false := by
    have := plS_pos (c := c) r
    simp; lia
  unfold joinP
  rw [h1, h2, Bool.or_false, if_neg (by decide)]
  cases r with
  | nil =>
    have h3 : Txt.endswith (plS c []) "/" = true := by rw [slash_eq, ends_one _ _ (plS_pos _)]; rfl
    rw [if_pos h3]
    rfl
  | cons b' r =>
    have h3 : Txt.endswith (plS c (b' :: r)) "/" = false := by
      rw [slash_eq, ends_one _ _ (plS_pos _), plS_cons, plS_len, if_neg (by simp)]
      rw [List.getElem?_append_right (by rw [plN_len]; simp; lia), plN_len]
      have : 2 * (b' :: r).length - 1 - 2 * r.length = 1 := by rw [List.length_cons]; lia
      rw [this]
      simpa using h.n47 b'
    rw [if_neg (by rw [h3]; decide)]
    apply ext_list
    rw [app_list, app_list, slash_eq]
    show (plN c (b' :: r)) ++ ([47] ++ [c b]) = plN c (b' :: r) ++ [47, c b]
    rfl
theorem grow_place (h : Signs c) (y : Path) : ∀ m, growN (S1 (c false)) (S1 (c true)) (plS c y) m = (plS c (growP y m).1, (growP y m).2.map (plS c))
  | 0 => rfl
  | m + 1 => by
    unfold growN growP
    rw [grow_place h y m]
    dsimp only
    rw [join_place h, join_place h]
    rfl
theorem joinCons (k : Nat) (x : PySem.Str) : ∀ l : List PySem.Str, (PySem.Str.join ⟨#[k]⟩ (x :: l)).cps.toList = x.cps.toList ++ l.flatMap fun p => k :: p.cps.toList
  | [] => by rw [List.flatMap_nil, List.append_nil]; rfl
  | y :: l => by
    show (x ++ ⟨#[k]⟩ ++ PySem.Str.join ⟨#[k]⟩ (y :: l)).cps.toList = _
    rw [app_list, app_list, joinCons k y l, List.flatMap_cons]
    simp
theorem free_head {k : Nat} {a a' s s' : List Nat} (ha : k ∉ a) (ha' : k ∉ a') (e : a ++ k :: s = a' ++ k :: s') : a = a' ∧ s = s' := by
  induction a generalizing a' with
  | nil =>
    cases a' with
    | nil => simpa using e
    | cons b a' => simp only [List.nil_append, List.cons_append, List.cons.injEq] at e; exact absurd (e.1 ▸ List.mem_cons_self ..) ha'
  | cons b a ih =>
    cases a' with
    | nil => simp only [List.nil_append, List.cons_append, List.cons.injEq] at e; exact absurd (e.1 ▸ List.mem_cons_self ..) ha
    | cons b' a' =>
      simp only [List.cons_append, List.cons.injEq] at e
      have := ih (fun h => ha (.tail _ h)) (fun h => ha' (.tail _ h)) e.2
      exact ⟨by rw [e.1, this.1], this.2⟩
theorem join_inj (k : Nat) : ∀ (l l' : List PySem.Str) (x x' : PySem.Str), (∀ p ∈ x :: l, k ∉ p.cps.toList) → (∀ p ∈ x' :: l', k ∉ p.cps.toList) → (x.cps.toList ++ l.flatMap fun p => k :: p.cps.toList) = (x'.cps.toList ++ l'.flatMap fun p => k :: p.cps.toList) → x = x' ∧ l = l'
  | [], [], x, x', _, _, e => by simp at e; exact ⟨ext_list (by simpa using e), rfl⟩
  | [], y :: l', x, x', h, _, e => by
    exfalso
    rw [List.flatMap_nil, List.append_nil, List.flatMap_cons] at e
    apply h x (.head _)
    rw [e]; simp
  | y :: l, [], x, x', _, h', e => by
    exfalso
    rw [List.flatMap_nil, List.append_nil, List.flatMap_cons] at e
    apply h' x' (.head _)
    rw [← e]; simp
  | y :: l, y' :: l', x, x', h, h', e => by
    rw [List.flatMap_cons, List.flatMap_cons, List.cons_append, List.cons_append] at e
    obtain ⟨h1, h2⟩ := free_head (h x (.head _)) (h' x' (.head _)) e
    obtain ⟨h3, h4⟩ := join_inj k l l' y y' (fun p hp => h p (.tail _ hp)) (fun p hp => h' p (.tail _ hp)) h2
    exact ⟨ext_list h1, by rw [h3, h4]⟩
theorem split_ne (x y : PySem.Str) : Txt.split x y ≠ [] := by
  unfold Txt.split
  split
  · simp
  · split
    · simp
    · rw [StrLaws.partsBetween_eq]
      obtain ⟨p, q, e⟩ := StrLaws.partsFrom_ne x y.length 0 (Builtin.Str.occurrences x y 0 x.length (x.length + 1))
      rw [e]; simp
theorem split_one (z : PySem.Str) (k : Nat) (x : PySem.Str) (l : List PySem.Str) (hf : ∀ p ∈ x :: l, k ∉ p.cps.toList) (e : z.cps.toList = x.cps.toList ++ l.flatMap fun p => k :: p.cps.toList) : Txt.split z ⟨#[k]⟩ = x :: l := by
  cases hs : Txt.split z ⟨#[k]⟩ with
  | nil => exact absurd hs (split_ne _ _)
  | cons x' l' =>
    have h1 := StrLaws.join_split z ⟨#[k]⟩
    rw [hs] at h1
    have h2 : (PySem.Str.join ⟨#[k]⟩ (x' :: l')).cps.toList = z.cps.toList := congrArg (fun s : PySem.Str => s.cps.toList) h1
    rw [joinCons, e] at h2
    have h3 : ∀ p ∈ x' :: l', k ∉ p.cps.toList := fun p hp => StrLaws.split_free z k p (hs ▸ hp)
    obtain ⟨e1, e2⟩ := join_inj k l' l x' x h3 hf h2
    rw [e1, e2]
theorem plN_flat : ∀ r : Path, plN c r = (r.reverse.map fun b => S1 (c b)).flatMap fun p => 47 :: p.cps.toList
  | [] => rfl
  | b :: r => by
    rw [plN, plN_flat r, List.reverse_cons, List.map_append, List.flatMap_append]
    rfl
noncomputable def namesOf (c : Bool → Nat) (r : Path) : List PySem.Str := r.reverse.map fun b => S1 (c b)
theorem namesOf_free (h : Signs c) (r : Path) : ∀ p ∈ namesOf c r, 47 ∉ p.cps.toList := by
  intro p hp
  obtain ⟨b, _, rfl⟩ := List.mem_map.mp hp
  rw [S1_list]
  simpa using fun e => h.n47 b e.symm
theorem split_place (h : Signs c) (r : Path) : Txt.split (plS c r) "/" = if r = [] then [mkS [], mkS []] else mkS [] :: namesOf c r := by
  rw [slash_eq]
  cases r with
  | nil =>
    rw [if_pos rfl]
    refine split_one _ _ _ _ (fun p hp => ?_) rfl
    simp only [List.mem_cons, List.not_mem_nil, or_false] at hp
    rcases hp with rfl | rfl <;> simp [mkS]
  | cons b r =>
    rw [if_neg (by simp)]
    refine split_one _ _ _ _ (fun p hp => ?_) ?_
    · rcases List.mem_cons.mp hp with rfl | hp
      · simp [mkS]
      · exact namesOf_free h _ p hp
    · show plN c (b :: r) = _
      rw [plN_flat (b :: r)]
      rfl
theorem empty_eq : ("" : PySem.Str) = mkS [] := by decide +kernel
theorem dot_eq : ("." : PySem.Str) = ⟨#[46]⟩ := by decide +kernel
theorem S1_ne (k : Nat) : (S1 k != "") = true := by
  rw [empty_eq]
  simp [S1, mkS]
theorem parts_place (h : Signs c) (r : Path) : partsP (plS c r) = namesOf c r := by
  have hall : (namesOf c r).filter (fun (y : PySem.Str) => y != "") = namesOf c r := by
    rw [List.filter_eq_self]
    intro p hp
    obtain ⟨b, _, rfl⟩ := List.mem_map.mp hp
    exact S1_ne _
  unfold partsP
  rw [split_place h]
  have he : (mkS [] != "") = false := by rw [empty_eq]; simp
  split
  · rename_i e
    subst e
    rw [List.filter_cons, List.filter_cons, he]; rfl
  · rw [List.filter_cons, he]; exact hall
theorem depth_place (h : Signs c) (r : Path) : depthP (plS c r) = r.length := by
  unfold depthP; rw [parts_place h]; unfold namesOf; simp
theorem comps_place (h : Signs c) (r : Path) : compsP (plS c r) = namesOf c r := by
  have hall : (namesOf c r).filter goodC = namesOf c r := by
    rw [List.filter_eq_self]
    intro p hp
    obtain ⟨b, _, rfl⟩ := List.mem_map.mp hp
    unfold goodC
    rw [Bool.and_eq_true]
    refine ⟨rfl, ?_⟩
    rw [dot_eq]
    have : S1 (c b) ≠ ⟨#[46]⟩ := fun e => h.n46 b (S1_inj e)
    simpa using this
  unfold compsP
  rw [split_place h]
  have he : goodC (mkS []) = false := rfl
  split
  · rename_i e
    subst e
    rw [List.filter_cons, List.filter_cons, he]; rfl
  · rw [List.filter_cons, he]; exact hall
end
end

section
open PySem PySem.W PyProof.Rows PySem.Calls PyProof.V
set_option maxHeartbeats 1000000
theorem slice_list (x : PySem.Str) (l u : Option Int) {a b : Nat} (hab : a ≤ b) (hb : b ≤ x.length) (e : Builtin.Str.strSliceIndices l u 1 x.length = Builtin.Str.strSliceIndices (some (a : Int)) (some (b : Int)) 1 x.length) : (Txt.slice x l u).cps.toList = (x.cps.toList.drop a).take (b - a) := by
  have h1 := StrLaws.sliced_plain x hab hb
  have h2 := StrLaws.strSliceIndices_plain (a := a) (b := b) hab hb
  unfold Txt.slice
  rw [e]
  split
  · rename_i hc
    rw [h2] at hc
    simp only [List.length_map, List.length_range, Bool.and_eq_true, beq_iff_eq] at hc
    have hn := len_list x
    have ha : a = 0 := by lia
    subst ha
    rw [List.drop_zero, List.take_of_length_le (by lia)]
  · show List.filterMap _ _ = _
    exact h1
theorem slice_to (x : PySem.Str) {k : Nat} (hk : k ≤ x.length) : (Txt.slice x none (some (k : Int))).cps.toList = x.cps.toList.take k := by
  have h := slice_list x none (some (k : Int)) (a := 0) (b := k) (Nat.zero_le _) hk (by
    unfold Builtin.Str.strSliceIndices
    have h0 : min (0 : Int) (x.length : Int) = 0 := by lia
    simp [h0])
  rw [h, List.drop_zero, Nat.sub_zero]
theorem slice_from (x : PySem.Str) {k : Nat} (hk : k ≤ x.length) : (Txt.slice x (some (k : Int)) none).cps.toList = x.cps.toList.drop k := by
  have h := slice_list x (some (k : Int)) none (a := k) (b := x.length) hk (Nat.le_refl _) (by
    unfold Builtin.Str.strSliceIndices
    have h1 : ¬ ((x.length : Int) < 0) := by lia
    have h2 : max (0 : Int) (x.length : Int) = x.length := by lia
    simp [h1, h2])
  rw [h, List.take_of_length_le (by rw [List.length_drop, ← len_list]; lia)]
theorem chA_list (z : PySem.Str) {i k : Nat} (h : z.cps.toList[i]? = some k) : chA z i = S1 k := by
  have hi : i < z.length := by rw [len_list]; exact (List.getElem?_eq_some_iff.mp h).1
  apply ext_list
  unfold chA
  have e := slice_list z (some (i : Int)) (some ((i : Int) + 1)) (a := i) (b := i + 1) (Nat.le_succ _) hi (by rw [Int.natCast_add]; rfl)
  rw [e, Nat.add_sub_cancel_left]
  have hd : z.cps.toList.drop i = k :: z.cps.toList.drop (i + 1) := by
    obtain ⟨h1, h2⟩ := List.getElem?_eq_some_iff.mp h
    rw [List.drop_eq_getElem_cons h1, h2]
  rw [hd]
  rfl
section
variable {c : Bool → Nat}
theorem rfind_place (h : Signs c) (b : Bool) (r : Path) : Txt.rfind (plS c (b :: r)) "/" = ((2 * r.length : Nat) : Int) := by
  rw [slash_eq]
  have hlen : (plS c (b :: r)).length = 2 * r.length + 2 := by rw [plS_len, if_neg (by simp), List.length_cons]; lia
  have hat : ∀ i, StrLaws.At (plS c (b :: r)) ⟨#[47]⟩ (plS c (b :: r)).length i ↔ (plN c r ++ [47, c b])[i]? = some 47 := fun i => StrLaws.subAt_one (plS c (b :: r)) 47 i
  have h0 : StrLaws.At (plS c (b :: r)) ⟨#[47]⟩ (plS c (b :: r)).length (2 * r.length) := by
    rw [hat, List.getElem?_append_right (by rw [plN_len]; lia), plN_len, Nat.sub_self]; rfl
  have h1 : ∀ i, 2 * r.length < i → ¬ StrLaws.At (plS c (b :: r)) ⟨#[47]⟩ (plS c (b :: r)).length i := by
    intro i hi
    rw [hat, List.getElem?_append_right (by rw [plN_len]; lia), plN_len]
    intro e
    have h3 : i - 2 * r.length < 2 := (List.getElem?_eq_some_iff.mp e).1
    have h4 : i - 2 * r.length = 1 := by lia
    rw [h4] at e
    exact h.n47 b (by simpa using e)
  rcases rfind_whole (plS c (b :: r)) ⟨#[47]⟩ with ⟨_, hn⟩ | ⟨i, e, hi, hn⟩
  · exact absurd h0 (hn _)
  · rw [e]
    have h5 : ¬ i < 2 * r.length := fun hlt => hn _ hlt h0
    have h6 : ¬ 2 * r.length < i := fun hlt => h1 i hlt hi
    congr 1
    lia
theorem base_place (h : Signs c) (b : Bool) (r : Path) : basenameP (plS c (b :: r)) = S1 (c b) := by
  have hlen : (plS c (b :: r)).length = 2 * r.length + 2 := by rw [plS_len, if_neg (by simp), List.length_cons]; lia
  unfold basenameP
  rw [rfind_place h]
  apply ext_list
  have := slice_from (plS c (b :: r)) (k := 2 * r.length + 1) (by lia)
  rw [show (((2 * r.length : Nat) : Int) + 1) = ((2 * r.length + 1 : Nat) : Int) by lia, this, plS_cons, List.drop_append, plN_len]
  rw [List.drop_of_length_le (by rw [plN_len]; lia)]
  rw [show 2 * r.length + 1 - 2 * r.length = 1 by lia]
  rfl
theorem head_place (h : Signs c) (b : Bool) (r : Path) : (headP (plS c (b :: r))).cps.toList = plN c r ++ [47] := by
  have hlen : (plS c (b :: r)).length = 2 * r.length + 2 := by rw [plS_len, if_neg (by simp), List.length_cons]; lia
  unfold headP
  rw [rfind_place h]
  have := slice_to (plS c (b :: r)) (k := 2 * r.length + 1) (by lia)
  rw [show (((2 * r.length : Nat) : Int) + 1) = ((2 * r.length + 1 : Nat) : Int) by lia, this, plS_cons, List.take_append, plN_len]
  rw [List.take_of_length_le (by rw [plN_len]; lia)]
  rw [show 2 * r.length + 1 - 2 * r.length = 1 by lia]
  rfl
theorem dir_place (h : Signs c) (b : Bool) (r : Path) : dirnameP (plS c (b :: r)) = plS c r := by
  have hh := head_place h b r
  unfold dirnameP
  cases r with
  | nil =>
    have e : headP (plS c [b]) = ⟨#[47]⟩ := ext_list hh
    rw [e]
    have : ((⟨#[47]⟩ : PySem.Str).length != 0 && (⟨#[47]⟩ : PySem.Str) != Txt.mul "/" ((⟨#[47]⟩ : PySem.Str).length : Nat)) = false := by decide +kernel
    rw [this]
    rfl
  | cons b' r =>
    have hl : (headP (plS c (b :: b' :: r))).length = 2 * (b' :: r).length + 1 := by rw [len_list, hh, List.length_append, plN_len]; rfl
    have h1 : ((headP (plS c (b :: b' :: r))).length != 0) = true := by rw [hl]; simp
    have h2 : (headP (plS c (b :: b' :: r)) != Txt.mul "/" ((headP (plS c (b :: b' :: r))).length : Nat)) = true := by
      rw [bne_iff_ne]
      intro e
      have e2 : (headP (plS c (b :: b' :: r))).cps.toList[2 * r.length + 1]? = some (c b') := by
        rw [hh, List.getElem?_append_left (by rw [plN_len, List.length_cons]; lia), plN, List.getElem?_append_right (by rw [plN_len]; lia), plN_len]
        rw [show 2 * r.length + 1 - 2 * r.length = 1 by lia]; rfl
      have hall : ∀ (n : Nat) (acc : Array Nat), (∀ k ∈ acc.toList, k = 47) → ∀ k ∈ ((List.replicate n (#[47] : Array Nat)).foldl (· ++ ·) acc).toList, k = 47 := by
        intro n
        induction n with
        | zero => intro acc ha; exact ha
        | succ n ih =>
          intro acc ha
          rw [List.replicate_succ, List.foldl_cons]
          refine ih _ fun k hk => ?_
          rw [Array.toList_append] at hk
          rcases List.mem_append.mp hk with hk | hk
          · exact ha k hk
          · simpa using hk
      have hm : ∀ k ∈ (Txt.mul "/" ((headP (plS c (b :: b' :: r))).length : Nat)).cps.toList, k = 47 := by
        unfold Txt.mul
        rw [slash_eq]
        split
        · intro k hk; cases hk
        · split
          · intro k hk; simpa using hk
          · exact hall _ _ (fun k hk => by cases hk)
      rw [e] at e2
      exact h.n47 b' (hm _ (List.mem_of_getElem? e2))
    rw [h1, h2, Bool.and_true, if_pos rfl]
    apply ext_list
    unfold Txt.rstripChars
    rw [PyProof.Rows.stripBy_eq]
    unfold stripLo stripHi
    rw [slash_eq, StrLaws.strSub_toList]
    simp only [Bool.false_eq_true, if_false, if_true, List.drop_zero, Nat.sub_zero]
    rw [hl, hh, List.reverse_append]
    have ht : ((([47] : List Nat).reverse ++ (plN c (b' :: r)).reverse).takeWhile (#[47] : Array Nat).contains).length = 1 := by
      rw [plN, List.reverse_append]
      show ((47 :: c b' :: _ : List Nat).takeWhile _).length = 1
      rw [List.takeWhile_cons, if_pos (by simp), List.takeWhile_cons, if_neg]
      · rfl
      · have := h.n47 b'
        simpa using this
    rw [ht]
    rw [show 2 * (b' :: r).length + 1 - 1 = 2 * (b' :: r).length by lia]
    rw [List.take_append_of_le_length (by rw [plN_len]; lia), List.take_of_length_le (by rw [plN_len]; lia)]
    rfl
end
end

section
open PySem PySem.W PyProof.Rows PySem.Calls PyProof.V
theorem ite_dup {α : Type} {c : Prop} [Decidable c] {a b : α} (h : b = a) : (if c then a else b) = a := by rw [h]; exact ite_self _
theorem short3 {α β : Type} {f : α → Option β} {a b c : α} (h : f c = none) : (([a, b, c].filterMap f).length != 3) = true := by
  have e : ([a, b, c].filterMap f).length = ([a, b].filterMap f).length := by
    rw [show [a, b, c] = [a, b] ++ [c] from rfl, List.filterMap_append, List.filterMap_cons_none h]
    exact congrArg List.length (List.append_nil _)
  have l := List.length_filterMap_le f [a, b]
  rw [e]
  exact bne_iff_ne.mpr fun q => Nat.lt_irrefl 2 (Nat.le_trans (Nat.le_of_eq q.symm) l)
theorem swapped3 {env : Env} {L : Addr} {ns : Kinds} {cl : List (PySem.Str × Addr)} {x y z : PySem.Str} {px py pz tpos vpos : Pos} {k k' : Nat} {e₁ e₂ e₃ : Expr} (ok : EnvOk env L ns cl) (hz : ns.lookup z = some .cell) :
    swappedStores [Expr.Tuple [.Name x px, .Name y py, .Name z pz] k tpos] (Expr.Tuple [e₁, e₂, e₃] k' vpos) env = pure none := by
  have kz : (env.kindOf z == some .local) = false := by rw [ok.names z, hz]; rfl
  unfold swappedStores
  dsimp only
  exact ite_dup (ite_dup (if_pos (Bool.or_eq_true_iff.mpr (.inl (short3 (by exact if_neg fun h => Bool.noConfusion (kz.symm.trans (Bool.and_eq_true_iff.mp h).1)))))))
end

section
open PySem PySem.W PyProof.Rows PySem.Calls PyProof.V
set_option maxHeartbeats 1000000
theorem txtJoin (x : PySem.Str) (ys : List PySem.Str) : Txt.join x ys = PySem.Str.join x ys := StrLaws.glued_eq_join x ys
theorem txtJoin_le (x : PySem.Str) (ys : List PySem.Str) : (Txt.join x ys).length ≤ (ys.map (·.length)).sum + ys.length * x.length := by
  rw [txtJoin]; exact StrLaws.join_length_le x ys
theorem sum_le_of {ys : List PySem.Str} {B : Nat} (h : ∀ y ∈ ys, y.length ≤ B) : (ys.map (·.length)).sum ≤ ys.length * B := by
  induction ys with
  | nil => simp
  | cons y ys ih =>
    have h1 := h y (.head _)
    have h2 := ih fun z hz => h z (.tail _ hz)
    rw [List.map_cons, List.sum_cons, List.length_cons, Nat.succ_mul]
    lia
section
variable {D : Wd} {n : Nat} {env : Env} {L : Addr} {W W' W₁ W₂ : Wld} {F G : Led} {s : Shared}
theorem callNameF {id : PySem.Str} {p pos : Pos} {args : List Expr} {a : Addr} {ps : List PV} (hf : EvalR D n env W (.Name id p) (.con (.ref a)) W₁) (hk : Keeper D (.ref a)) (ha : EvalsR D n env W₁ args ps W₂)
    (A : Around) (F G : Led) (s : Shared) (Q : Value → Shared → Prop) (E : Value → Shared → Prop) (rm : Room A n) (c : Core D F G W s) (k : ∀ G' vs s', G.le G' → Core D F G' W₂ s' → RepAll G' vs ps → wpAny (model D.prog D.w) A (PySem.call (.ref a) vs) Q E s') :
    wpAny (model D.prog D.w) A (eval (.Call (.Name id p) args [] pos) env) Q E s := by
  refine wpAny_Call_NameR (hf A F G s _ E rm c fun G₁ fv s₁ l₁ c₁ rf => ?_)
  obtain rfl := Rep.con_v rf
  have np := (ha.noStar (pos := pos)).1
  have body : wpAny (model D.prog D.w) A (spliced (backTo pos (starEach args env))) (fun vs s₁ => (∀ a o, D.B.get? a = some o → s₁.heap.get? a = some o) ∧ wpAny (model D.prog D.w) A (PySem.call (.ref a) vs []) Q E s₁) E s₁ :=
    ha.wp A F G₁ s₁ _ E rm c₁ fun G₂ vs s₂ l₂ c₂ rs => ⟨c₂.keeps, k G₂ vs s₂ (l₁.trans l₂) c₂ rs⟩
  rcases hk with hk | ⟨b, o, fd, e, ho, hd⟩
  · exact absurd rfl (hk a)
  · cases e
    exact callWith_function (first := []) (o := o) (fd := fd) (evalArgs_of np (wpAny_mono body (fun _ _ h => ⟨⟨h.1 _ _ ho, hd⟩, h.2⟩) fun _ _ x => x))
theorem Core.stillCell {a b : Addr} {ps : List PV} {W₁ W₂ W₃ : Wld} (c : Core D F G (W₁ ++ (a, .lst ps) :: (W₂ ++ (b, .cell (some (.con (.ref a)))) :: W₃)) s) : ∃ G', G.le G' ∧ Core D F G' (W₁ ++ (W₂ ++ (b, .cell (some (.list ps))) :: W₃)) s := by
  obtain ⟨ob, c', r⟩ := Core.still c
  refine ⟨G.add a ob, Led.le_add, ?_⟩
  have c'' : Core D F (G.add a ob) ((W₁ ++ W₂) ++ (b, .cell (some (.con (.ref a)))) :: W₃) s := by rw [List.append_assoc]; exact c'
  have := c''.tell (m' := .cell (some (.list ps))) fun k => by
    obtain ⟨v, hv, hq⟩ := k
    refine ⟨v, hv, fun q e => ?_⟩
    cases e
    obtain ⟨u, e1, e2⟩ := hq _ rfl
    cases e2
    exact ⟨_, e1, r⟩
  rwa [List.append_assoc] at this
theorem loopForW {target iter : Expr} {body : List Stmt} {pos : Pos} {s0 s1 : PySem.Str} {b : Array UInt8} (Wl : List PySem.Str → Nat → List PySem.Str → Nat → Wld) {xs : List Int} {free given free' given' : List PySem.Str} {left i : Nat} (h : LoopR s0 s1 xs free left given free' given') (ho : OctsAt b i xs)
    (h1 : EvalR D n env (Wl free left given i) iter (.list (xs.map .int)) (Wl free left given i)) (hs : ∀ x, foldedSetIterable iter env x = pure x)
    (hsome : ∀ (x : Int) (free given : List PySem.Str) (left k m i : Nat) (y : PySem.Str), (∀ y ∈ free, y.length ≤ 1000) → free.length ≤ 1000 → free[k]? = some y → (∀ j < k, ∀ z, free[j]? = some z → ¬ ((depthP z : Int) ≤ wishD x)) → wishD x = depthP y + m → wishS x ≤ left → given.length ≤ 100 →
      FreeOk (free.take k ++ (growN s0 s1 y m).2 ++ free.drop (k + 1)) (left - wishS x) → (∀ k q, (octs x)[k]? = some q → b[i + k]? = some q.toNat.toUInt8) →
      ∃ W₁, AssignR D n env (Wl free left given i) target (.int x) W₁ ∧ ExecR D n env W₁ body (.next (Wl (free.take k ++ (growN s0 s1 y m).2 ++ free.drop (k + 1)) (left - wishS x) (given ++ [(growN s0 s1 y m).1]) (i + (octs x).length))))
    (hnone : ∀ (x : Int) (free given : List PySem.Str) (left i : Nat), (∀ y ∈ free, y.length ≤ 1000) → free.length ≤ 1000 → (∀ y ∈ free, ¬ ((depthP y : Int) ≤ wishD x)) → left < wishS x → FreeOk free left → (∀ k q, (octs x)[k]? = some q → b[i + k]? = some q.toNat.toUInt8) →
      ∃ W₁, AssignR D n env (Wl free left given i) target (.int x) W₁ ∧ ExecR D n env W₁ body (.next (Wl free left given (i + (octs x).length))))
    (A : Around) (F G : Led) (s : Shared) (Q : Flow → Shared → Prop) (E : Value → Shared → Prop) (rm : Room A n) (c : Core D F G (Wl free left given i) s) (k : ∀ left' i' G' s', G.le G' → Core D F G' (Wl free' left' given' i') s' → Q .next s') :
    wpAny (model D.prog D.w) A (exec (.For target iter body [] pos) env) Q E s := by
  obtain ⟨left', i', hf⟩ := loopFor Wl hsome hnone h i ho
  exact ExecS.for h1 IterR.list hf hs A F G s Q E rm c fun G' s' l c' => k left' i' G' s' l c'
end
section
variable {D : Wd} {n : Nat} {env : Env} {L : Addr} {ns : Kinds} {cl : List (PySem.Str × Addr)} {W W' W₁ W₂ W₃ : Wld} {elt iter it' : Expr} {scope : Scope} {x y z : PySem.Str} {xp yp zp pos spos : Pos} {p : PV} {ps : List PV}
theorem ExecS.assignComp2 (inn : PV → List PV) (src : PV → PV) (outf : PV → PV → PV) (ok : EnvOk env L ns cl) (h1 : EvalR D n env W iter p W₁) (h2 : IterR D n p ps) (hk : scope.kind = .function) (hcell : ∀ x ∈ scope.names, x.2 ≠ .cell) (hfree : freeIn cl scope.names) (hnames : ∀ x ∈ scope.names, x.2 = .local → scope.names.lookup x.1 = some .local)
    (hx : (relab ns scope.names).lookup x = some .local) (hy : (relab ns scope.names).lookup y = some .local) (hxy : (y == x) = false) (hs' : ∀ cenv z, foldedSetIterable it' cenv z = pure z)
    (h3 : ∀ (C : Addr) (cenv : Env), EnvOk cenv C (relab ns scope.names) (closL cl scope.names []) → ∀ p ∈ ps, ∀ σ : Sg, (σ = [(x, p)] ∨ ∃ r, σ = [(x, p), (y, r)]) → EvalR D n cenv ((C, .frame σ) :: W₁) it' (src p) ((C, .frame σ) :: W₁) ∧ IterR D n (src p) (inn p))
    (h4 : ∀ (C : Addr) (cenv : Env), EnvOk cenv C (relab ns scope.names) (closL cl scope.names []) → ∀ p ∈ ps, ∀ q ∈ inn p, EvalR D n cenv ((C, .frame [(x, p), (y, q)]) :: W₁) elt (outf p q) ((C, .frame [(x, p), (y, q)]) :: W₁))
    (hz : (ps.flatMap fun p => (inn p).map (outf p)).length ≤ 1000000) (h5 : StoreR D env W₁ z (.list (ps.flatMap fun p => (inn p).map (outf p))) W₃) (hzl : ns.lookup z = some .local) (hline : (spos.line == pos.line) = true → (zp.line == pos.line) = true) (hl : (zp.line == pos.line) = true) (hny : (scope.names.any fun x => x.1 == z && (x.2 == .local || x.2 == .cell)) = false)
    (hs : ∀ x, foldedSetIterable iter env x = pure x := by intro _; rfl) : ExecS D n env W (.Assign [.Name z zp] (.ListComp elt [⟨.Name x xp, iter, [], 0⟩, ⟨.Name y yp, it', [], 0⟩] scope pos) spos) (.next W₃) :=
  ExecS.assignComp ok h1 h2 hk hcell hfree hnames (fun C cenv okc => CompR.map2 inn src outf okc hx hy hxy (hs' cenv) ps [] (.inl rfl) (h3 C cenv okc) (h4 C cenv okc)) hz h5 hzl hline hl hny hs
end
noncomputable def LW (L gl it : Addr) (script : List Int) (b : Array UInt8) (W : Wld) (fr : List PySem.Str) (le : Nat) (gi : List PySem.Str) (i : Nat) : Wld :=
  (L, .frame [("script", .list (script.map .int)), ("drawn", .list ((drawnP script).map .int)), ("sides", .str (sidesP ((drawnP script).sum.fmod 6))), ("flow", .con (.ref it)), ("free", .list (fr.map .str)), ("left", .int (le : Int))]) :: (gl, .lst (gi.map .str)) :: (it, .biter b i) :: (L + 1 + 1, .cell (some (.con (.ref gl)))) :: (L + 1, .cell (some (.list (namesP.map .str)))) :: W
theorem wish_facts (x : Int) : 0 ≤ (x.fmod 4096).fmod 11 ∧ (x.fmod 4096).fmod 11 ≤ 10 ∧ wishD x ≤ 10 := by
  have h1 := Int.fmod_lt_of_pos (x.fmod 4096) (b := 11) (by lia)
  have h2 := Int.fmod_nonneg_of_pos (x.fmod 4096) (b := 11) (by lia)
  unfold wishD
  lia
theorem wish_size (x : Int) : (2 : Int) ^ ((x.fmod 4096).fmod 11).toNat = (wishS x : Int) := by unfold wishS; rw [Int.natCast_pow]; rfl
noncomputable def nameP (p : PV) : PV := match p with | .str y => .str (namesP.getD (10 - depthP y) "") | q => q
theorem nameP_map (free : List PySem.Str) : (free.map PV.str).map nameP = (flagsP free).map .str := by
  unfold flagsP; rw [List.map_map, List.map_map]; rfl
theorem namesP_le : ∀ y ∈ namesP, y.length ≤ 20 := by decide
theorem flagsP_len (free : List PySem.Str) : ∀ y ∈ flagsP free, y.length ≤ 20 := by
  intro y hy
  unfold flagsP at hy
  obtain ⟨z, _, rfl⟩ := List.mem_map.mp hy
  rw [List.getD_eq_getElem?_getD]
  cases h : namesP[10 - depthP z]? with
  | none => decide
  | some q => exact namesP_le q (List.mem_of_getElem? h)
theorem name_at {y : PySem.Str} (h1 : 1 ≤ depthP y) (h2 : depthP y ≤ 10) : (namesP.map PV.str)[((10 : Int) - (depthP y : Int)).toNat]? = some (.str (namesP.getD (10 - depthP y) "")) := by
  have e : ((10 : Int) - (depthP y : Int)).toNat = 10 - depthP y := by lia
  have hl : 10 - depthP y < namesP.length := by have : namesP.length = 10 := rfl; lia
  rw [e, List.getElem?_map, List.getD_eq_getElem?_getD, List.getElem?_eq_getElem hl]
  rfl
theorem flags_join {fr : List PySem.Str} (h : fr.length ≤ 100) : ((flagsP fr).map (·.length)).sum + (flagsP fr).length * (", " : PySem.Str).length ≤ 16777216 ∧ (Txt.join ", " (flagsP fr)).length ≤ 16777216 := by
  have h1 := sum_le_of (flagsP_len fr)
  have h2 : (flagsP fr).length = fr.length := by unfold flagsP; rw [List.length_map]
  have h3 : (", " : PySem.Str).length = 2 := by decide
  have h4 := txtJoin_le ", " (flagsP fr)
  rw [h3] at h4 ⊢
  lia
theorem orP_false {z : PySem.Str} (h : (z.length != 0) = false) : orP z = "0x0" := by
  unfold orP; rw [h]; rfl
theorem orP_true {z : PySem.Str} (h : (z.length != 0) = true) : orP z = z := by
  unfold orP; rw [if_pos h]
noncomputable def innP (p : PV) : List PV := match p with | .int j => upto j | _ => []
noncomputable def srcP (p : PV) : PV := match p with | .int j => .range j | q => q
noncomputable def pickP (given : List PySem.Str) (p : PV) : PV := match p with | .int j => .str (given.getD j.toNat "") | q => q
noncomputable def outP (given : List PySem.Str) (p q : PV) : PV := .list [pickP given q, pickP given p]
theorem mem_upto {m : Int} {q : PV} (h : q ∈ upto m) : ∃ j : Nat, q = .int (j : Int) ∧ j < m.toNat := by
  obtain ⟨j, hj, e⟩ := List.getElem_of_mem h
  obtain ⟨h1, h2⟩ := upto_get (j := j) (q := q) (by rw [List.getElem?_eq_getElem hj, e])
  exact ⟨j, h1, h2⟩
theorem flat_le {α β : Type} {f : α → List β} {B : Nat} : ∀ {l : List α}, (∀ a ∈ l, (f a).length ≤ B) → (l.flatMap f).length ≤ l.length * B
  | [], _ => by simp
  | a :: l, h => by
    have h1 := h a (.head _)
    have h2 := flat_le (l := l) fun b hb => h b (.tail _ hb)
    rw [List.flatMap_cons, List.length_append, List.length_cons, Nat.succ_mul]
    lia
theorem given_at {given : List PySem.Str} {i : Nat} (h : i < given.length) : (given.map PV.str)[((i : Nat) : Int).toNat]? = some (pickP given (.int (i : Int))) ∧ given[i]? = some (given.getD i "") := by
  have e : ((i : Nat) : Int).toNat = i := by lia
  have h2 : given[i]? = some (given.getD i "") := by rw [List.getD_eq_getElem?_getD, List.getElem?_eq_getElem h]; rfl
  constructor
  · show _ = some (PV.str (given.getD ((i : Nat) : Int).toNat ""))
    rw [e, List.getElem?_map, h2]; rfl
  · exact h2
theorem filterMap_no {α β : Type} : ∀ (l : List α), l.filterMap (fun _ => (none : Option β)) = []
  | [] => rfl
  | _ :: l => by rw [List.filterMap_cons_none rfl]; exact filterMap_no l
noncomputable def quoteV (p : PV) : PV := match p with | .str y => .str (quoteP y) | q => q
theorem quoteV_map (l : List PySem.Str) : (l.map PV.str).map quoteV = (l.map quoteP).map .str := by
  rw [List.map_map, List.map_map]; rfl
section
variable {D : Wd} {n : Nat} {env : Env}
theorem backFor {target : Expr} {body : List Stmt} {s0 s1 : PySem.Str} (Wb : List PySem.Str → Wld) (hstep : ∀ (free free' : List PySem.Str) (p : PySem.Str), BackR s0 s1 free p free' → ∃ W₁, AssignR D n env (Wb free) target (.str p) W₁ ∧ ExecR D n env W₁ body (.next (Wb free')))
    {free ps r : List PySem.Str} (h : BackL s0 s1 free ps r) : ForR D n env target body [] (Wb free) (ps.map .str) (.next (Wb r)) := by
  induction h with
  | nil => exact .done ExecR.nil
  | cons h1 _ ih =>
    obtain ⟨W₁, ha, hx⟩ := hstep _ _ _ h1
    exact .next ha hx ih
end
end

local macro_rules | `(tactic| walk_at $s) => lines s "con: CallR.sum
leaf: ExecK.nil 1 ; 1 leafN"
section
open PySem PySem.W PyProof.Rows PySem.Calls PyProof.V
set_option maxHeartbeats 4000000
section
variable {D : Wd} {n : Nat} {W W' : Wld}
theorem ExecS.goB {env : Env} {W₁ : Wld} {st : Stmt} {r : List Stmt} {B : Sem Flow} (hB : execs (st :: r) env = B) (h : ExecS D n env W st (.next W₁)) {A : Around} {F G : Led} {s : Shared} {Q : Flow → Shared → Prop} {E : Value → Shared → Prop} (rm : Room A n) (c : Core D F G W s)
    (k : ∀ G' s', G.le G' → Core D F G' W₁ s' → wpAny (model D.prog D.w) A (execs r env) Q E s') : wpAny (model D.prog D.w) A B Q E s := hB ▸ ExecS.go h rm c k
noncomputable def lawCells (L : Addr) : List (PySem.Str × Addr) := [("given", L + 1 + 1), ("names", L + 1)]
theorem law_spec (f : D.Fit) (script : List Int) (hn : script.length ≤ 1000) (H : LawOk script) (A : Around) (F G : Led) (s : Shared) (v : Value) (Q : Value → Shared → Prop) (E : Value → Shared → Prop) (rm : Room A (n + 50)) (hfr : A.frames = some []) (co : Core D F G W s) (r : Rep G v (.list (script.map .int)))
    (k : ∀ G' v s', G.le G' → Core D F G' W s' → Rep G' v (.bool true) → Q v s') : wpAny (model D.prog D.w) A (PySem.call (.ref 916) [v]) Q E s := by
  obtain ⟨hs2, free, given, hloop, hgl, hpairs, hqs, hjl, hjs, htoks, hback⟩ := H
  have hsl : (script.map PV.int).length ≤ 1000000 := by rw [List.length_map]; lia
  refine' callLaw (as := [.list (script.map .int)]) (p := .bool true) f 916 ["script"] lawCells ?e ?hb ?hc ?hok (bind1 ?hbind) ?hcl ?hlk ?h A F G s [v] Q E rm hfr co (.cons r .nil) k
  case e => with_unfolding_all rfl
  case hb => rfl
  case hc => kernel_rfl
  case hok => kernel_rfl
  case hbind => intro v; with_unfolding_all rfl
  case hcl => intro L; rfl
  case hlk =>
    intro L p hp
    simp only [lawCells, List.mem_cons, List.not_mem_nil, or_false] at hp
    rcases hp with rfl | rfl
    · rfl
    · rfl
  case h =>
    clear k co r rm hfr A F G s v Q E
    intro L env ok hf hkm A F G s Q E rm hfr c k
    have ok : EnvOk env L _ [("given", L + 1 + 1), ("names", L + 1)] := ok
    dsimp only at ok
    have c : Core D F G ((L, .frame [("script", .list (script.map .int))]) :: (L + 1 + 1, .cell none) :: (L + 1, .cell none) :: W) s := c
    have hdz : ((script.map PV.int).take ((6 : Int)).toNat).length + (([PV.int 15, PV.int 43, PV.int 140, PV.int 41]).drop (((script.map PV.int).length : Int)).toNat).length ≤ 1000000 := by
      rw [List.length_take, List.length_drop]; simp; lia
    have h4 : ([PV.int 15, PV.int 43, PV.int 140, PV.int 41]).length ≤ 1000000 := Nat.le_of_ble_eq_true rfl
    generalize hB : execs _ env = B
    refine' ExecS.goB hB (ExecS.assign (p := .list ((drawnP script).map .int)) (EvalR.is ?a1 ?a2) ?a3 ?a4) rm c fun G₁ s₁ l₁ c₁ => ?_
    case a1 => walk_at "m.ev"
    case a2 =>
      unfold drawnP
      rw [List.map_append, List.map_take, List.map_drop]
      rw [List.length_map, Int.toNat_natCast]
      rfl
    case a3 => walk_at "m.store"
    case a4 => rfl
    generalize hB : execs _ env = B
    refine' ExecS.goB hB (ExecS.assign (p := .str (sidesP ((drawnP script).sum.fmod 6))) ?b1 ?b2 ?b3) rm c₁ fun G₂ s₂ l₂ c₂ => ?_
    case b1 =>
      have z1 : ("a'b \"#a" : PySem.Str).length ≤ 16777216 := by decide
      have z2 : (Txt.slice "a'b \"#a" (some ((drawnP script).sum.fmod 6)) none).length ≤ 16777216 := Nat.le_trans (Txt.slice_le _ _ _) z1
      show EvalR _ _ _ _ _ (.str (Txt.slice (Txt.slice "a'b \"#a" (some ((drawnP script).sum.fmod 6)) none) none (some 2))) _
      walk_at "m.ev"
    case b2 => walk_at "m.store"
    case b3 => rfl
    generalize hB : execs _ env = B
    refine' ExecS.goB hB (ExecS.assign ?d1 ?d2 ?d3) rm c₂ fun G₃ s₃ l₃ c₃ => ?_
    case d1 => walk_at "m.ev"
    case d2 => walk_at "m.store"
    case d3 => rfl
    generalize hB : execs _ env = B
    refine' ExecS.goB hB (ExecS.assign (p := .list (namesP.map .str)) (EvalR.is ?e1 ?e4) ?e2 ?e3) rm c₃ fun G₄ s₄ l₄ c₄ => ?_
    case e1 =>
      have z1 : [PV.str "OPTIMIZED", .str "NEWLOCALS", .str "VARARGS", .str "VARKEYWORDS", .str "NESTED", .str "GENERATOR", .str "NOFREE", .str "COROUTINE"].length + [PV.str "ITERABLE_COROUTINE", .str "ASYNC_GENERATOR"].length ≤ 1000000 := Nat.le_of_ble_eq_true rfl
      walk_at "m.ev"
    case e4 => rfl
    case e2 => walk_at "m.store"
    case e3 => rfl
    have hdl : (drawnP script).length ≤ 6 := by unfold drawnP; rw [List.length_append, List.length_take, List.length_drop]; simp; lia
    have hfl := flat_len (drawnP script)
    refine' wpAny_execs_cons (iterW (b := byteArr ((drawnP script).flatMap octs)) (Wj := fun it => (it, .biter (byteArr ((drawnP script).flatMap octs)) 0) :: (L, .frame [("script", .list (script.map .int)), ("drawn", .list ((drawnP script).map .int)), ("sides", .str (sidesP ((drawnP script).sum.fmod 6))), ("flow", .con (.ref it))]) :: (L + 1 + 1, .cell none) :: (L + 1, .cell (some (.list (namesP.map .str)))) :: W) ?g1 (EvalsR.cons ?g2 (EvalR.call ?g3 ?g4 (EvalsR.cons ?g5 (EvalR.is (EvalR.comp2 octI (fun p => .list (octI p)) (fun p q => q) ok ?i1 IterR.list ?i2 ?i3 ?i4 ?i5 ?i6 ?i7 ?i8 ?i9 ?i10 ?i11 ?i12 ?i13) (congrArg PV.list (oct_flat _))) EvalsR.nil) (CallR.bytesI ?g6 ?g7)) EvalsR.nil) (fun it => ?g8) ?g9 A F G₄ s₄ _ E rm c₄ fun it G₅ s₅ l₅ c₅ => ?_)
    case g1 => walk_at "m.glob"
    case g2 => with_unfolding_all rfl
    case g3 => walk_at "m.glob"
    case g4 => walk_at "m.keep"
    case g5 => with_unfolding_all rfl
    case g6 =>
      intro z hz
      obtain ⟨x, _, hx⟩ := List.mem_flatMap.mp hz
      exact octs_small x z hx
    case g7 => lia
    case g9 => rfl
    case i1 => walk_at "m.ev"
    case i2 => rfl
    case i3 => decide
    case i4 => intro q hq hk; simp only [List.mem_cons, List.not_mem_nil, or_false] at hq; rcases hq with rfl | rfl | rfl | rfl <;> cases hk
    case i5 => decide
    case i6 => kernel_rfl
    case i7 => kernel_rfl
    case i8 => kernel_rfl
    case i9 => intro _ _; rfl
    case i10 =>
      intro C cenv okc p hp σ hσ
      have okc : EnvOk cenv C [(".0", .local), ("x", .local), ("octet", .local), ("_law_octets", .globalImplicit)] [] := okc
      obtain ⟨x, _, rfl⟩ := List.mem_map.mp hp
      refine' ⟨?j1, IterR.list⟩
      case j1 =>
        rcases hσ with rfl | ⟨r, rfl⟩
        · with_reducible refine' EvalR.call ?k1 ?k2 ?k3 (octets_c f rfl (by lia))
          case k1 => walk_at "m.glob"
          case k2 => walk_at "m.keep"
          case k3 => walk_at "m.evs"
        · with_reducible refine' EvalR.call ?k4 ?k5 ?k6 (octets_c f rfl (by lia))
          case k4 => walk_at "m.glob"
          case k5 => walk_at "m.keep"
          case k6 => walk_at "m.evs"
    case i11 =>
      intro C cenv okc p hp q hq
      have okc : EnvOk cenv C [(".0", .local), ("x", .local), ("octet", .local), ("_law_octets", .globalImplicit)] [] := okc
      walk_at "m.ev"
    case i12 => rw [oct_flat, List.length_map]; lia
    case i13 => intro _; rfl
    case g8 => walk_at "m.store"
    refine' wpAny_execs_cons (own3W (Wj := fun gl => (gl, .lst []) :: (it, .biter (byteArr ((drawnP script).flatMap octs)) 0) :: (L, .frame [("script", .list (script.map .int)), ("drawn", .list ((drawnP script).map .int)), ("sides", .str (sidesP ((drawnP script).sum.fmod 6))), ("flow", .con (.ref it)), ("free", .list [.str "/"]), ("left", .int 1024)]) :: (L + 1 + 1, .cell (some (.con (.ref gl)))) :: (L + 1, .cell (some (.list (namesP.map .str)))) :: W) (p₁ := .list [.str "/"]) (p₂ := .int 1024) (ps := []) ?o1 ?o2 EvalsR.nil ?o3 ?oo ?p1 ?p2 ?p3 ?p4 ?p5 A F G₅ s₅ _ E rm c₅ fun gl G₆ s₆ l₆ c₆ => ?_)
    case o1 => walk_at "m.ev"
    case o2 => walk_at "m.ev"
    case o3 => decide
    case oo =>
      intro a
      refine' AssignR.tup (AssignsR.cons ?o4 (AssignR.name ?o5) (AssignsR.cons ?o6 (AssignR.name ?o7) (AssignsR.cons ?o8 (AssignR.name ?o9) AssignsR.nil)))
      case o4 => with_unfolding_all rfl
      case o5 => walk_at "m.store"
      case o6 => with_unfolding_all rfl
      case o7 => walk_at "m.store"
      case o8 => with_unfolding_all rfl
      case o9 => walk_at "m.store"
    case p1 => with_unfolding_all rfl
    case p2 => with_unfolding_all rfl
    case p3 => with_unfolding_all rfl
    case p4 => rfl
    case p5 => exact swapped3 ok (by kernel_rfl)
    have c₇ : Core D F G₆ (LW L gl it script (byteArr ((drawnP script).flatMap octs)) W ["/"] 1024 [] 0) s₆ := c₆.perm' (List.Perm.trans (List.Perm.swap _ _ _) (List.Perm.trans (List.Perm.cons _ (List.Perm.swap _ _ _)) (List.Perm.refl _)))
    have hOcts : OctsAt (byteArr ((drawnP script).flatMap octs)) 0 (drawnP script) := fun k q e => by
      show (byteArr ((drawnP script).flatMap octs))[0 + k]? = _
      unfold byteArr
      rw [Nat.zero_add, List.getElem?_toArray, List.getElem?_map, e]
      rfl
    refine' wpAny_execs_cons (loopForW (n := n + 49) (LW L gl it script (byteArr ((drawnP script).flatMap octs)) W) hloop hOcts ?q1 ?q2 ?hsome ?hnone A F G₆ s₆ _ E rm c₇ fun left' i' G₇ s₇ l₇ c₈ => ?_)
    case q1 => unfold LW; walk_at "m.ev"
    case q2 => intro _; rfl
    case hsome =>
      intro x free given left k m i y h1 h2 h3 h4 h5 h6 h7 h8 hv
      obtain ⟨w1, w2, w3⟩ := wish_facts x
      have w4 : wishD x ≤ 1000 := by lia
      have w5 : (x.fmod 4096).fmod 11 ≤ 1000000 := by lia
      unfold LW
      refine' ⟨_, AssignR.name ?s1, ExecK.run ?s2⟩
      case s1 => walk_at "m.store"
      case s2 =>
        refine' ExecK.assignT (EvalR.call ?b1 ?b2 (EvalsR.cons ?b3 ?b4 (EvalsR.cons ?b5 (EvalR.bin EvalR.int (EvalR.bin (EvalR.call ?b6 ?b7 ?b8 (varint_c (n := n + 48) f (fun j => (L, .frame [("script", .list (script.map .int)), ("drawn", .list ((drawnP script).map .int)), ("sides", .str (sidesP ((drawnP script).sum.fmod 6))), ("flow", .con (.ref it)), ("free", .list (free.map .str)), ("left", .int (left : Int)), ("x", .int x)]) :: (gl, .lst (given.map .str)) :: (it, .biter (byteArr ((drawnP script).flatMap octs)) j) :: (L + 1 + 1, .cell (some (.con (.ref gl)))) :: (L + 1, .cell (some (.list (namesP.map .str)))) :: W) ?b9 hv)) EvalR.int (OpR.modi ?b10)) OpR.subi) (EvalsR.cons ?b11 ?b12 EvalsR.nil))) (given_some (n := n + 46) f free (wishD x) _ hs2 h1 h2 w4 k y m h3 h4 h5)) (AssignR.tup (AssignsR.cons ?c1 (AssignR.name ?c2) (AssignsR.cons ?c3 (AssignR.name ?c4) AssignsR.nil))) ?a3
        case b1 => walk_at "m.glob"
        case b2 => walk_at "m.keep"
        case b3 => with_unfolding_all rfl
        case b4 => walk_at "m.ev"
        case b5 => with_unfolding_all rfl
        case b6 => walk_at "m.glob"
        case b7 => walk_at "m.keep"
        case b8 => walk_at "m.evs"
        case b9 => intro _ _; walk_at "m.wput"
        case b10 => decide
        case b11 => with_unfolding_all rfl
        case b12 => walk_at "m.ev"
        case c1 => with_unfolding_all rfl
        case c2 => walk_at "m.store"
        case c3 => with_unfolding_all rfl
        case c4 => walk_at "m.store"
        case a3 =>
          refine' ExecK.assign (EvalR.is ?d1 (congrArg PV.int (wish_size x))) ?d3 ?d4
          case d1 => walk_at "m.ev"
          case d3 => walk_at "m.store"
          case d4 =>
            have hgt : ¬ ((wishS x : Int) > (left : Int)) := by lia
            with_reducible refine' ExecK.ifF (TestR.is (TestR.cmp ?e1 ?e2 OpR.neb ?e4) ?e5) ?e6
            case e1 => walk_at "m.ev"
            case e2 => walk_at "m.ev"
            case e4 => with_unfolding_all rfl
            case e5 =>
              show (!(false == decide ((wishS x : Int) > (left : Int)))) = false
              rw [decide_eq_false hgt]; rfl
            case e6 =>
              walk_at "m.x"
              with_reducible refine' ExecK.ifT (TestR.is ?f1 ?f2) ?f3
              case f1 => walk_at "m.test"
              case f2 => rfl
              case f3 =>
                have hsub : ((left : Int) - (wishS x : Int)) = ((left - wishS x : Nat) : Int) := by lia
                refine' ExecK.assign (EvalR.is ?g1 (congrArg PV.int hsub)) ?g3 ?g4
                case g1 => walk_at "m.ev"
                case g3 => walk_at "m.store"
                case g4 =>
                  have hz : (given.map PV.str).length ≤ 1000 := by rw [List.length_map]; lia
                  with_reducible refine' ExecK.expr ok (EvalR.append ?i1 ?i2 ?i3 ?i4 ?i5 ?i6 hz ?i7) ?i8 ?i9
                  case i1 => intro _; rfl
                  case i2 => walk_at "m.ev"
                  case i3 => walk_at "m.ev"
                  case i4 => walk_at "m.get"
                  case i5 => walk_at "m.wput"
                  case i6 => with_unfolding_all rfl
                  case i7 => rfl
                  case i9 => rfl
                  case i8 =>
                    walk_at "m.x"
                    have hlt : left - wishS x < 1024 := h8.lt
                    rw [show (given.map PV.str ++ [PV.str (growN (Txt.item (sidesP ((drawnP script).sum.fmod 6)) 0) (Txt.item (sidesP ((drawnP script).sum.fmod 6)) 1) y m).1]) = (given ++ [(growN (Txt.item (sidesP ((drawnP script).sum.fmod 6)) 0) (Txt.item (sidesP ((drawnP script).sum.fmod 6)) 1) y m).1]).map PV.str by rw [List.map_append]; rfl]
                    have hfr := h8
                    clear h8
                    obtain ⟨j1, j2⟩ := flags_join hfr.num
                    have j3 : (prettyP (left - wishS x) != orP (Txt.join ", " (flagsP (free.take k ++ (growN (Txt.item (sidesP ((drawnP script).sum.fmod 6)) 0) (Txt.item (sidesP ((drawnP script).sum.fmod 6)) 1) y m).2 ++ free.drop (k + 1))))) = false := by rw [hfr.flags]; simp
                    have j4 : ((free.take k ++ (growN (Txt.item (sidesP ((drawnP script).sum.fmod 6)) 0) (Txt.item (sidesP ((drawnP script).sum.fmod 6)) 1) y m).2 ++ free.drop (k + 1)).map PV.str).length ≤ 1000000 := by rw [List.length_map]; have := hfr.num; lia
                    with_reducible refine' ExecK.ifF (TestR.is (TestR.cmp (EvalR.call ?ta_u1 ?ta_u2 ?ta_u3 (pretty_c (by assumption) (by assumption) (by lia))) (EvalR.or2 (Mine.E.join ?ta_v1 (EvalsR.cons ?ta_v2 (EvalR.is (EvalR.compA nameP (by assumption) ?ta_w1 IterR.list ?ta_w2 ?ta_w3 ?ta_w4 ?ta_w5 ?ta_w6 ?ta_w7 ?ta_w8 ?ta_w9) (congrArg PV.list (nameP_map _))) EvalsR.nil) (by assumption) ?ta_v4 ?ta_v5 ?ta_v6) (TruthR.str (by assumption)) ?ta_v8 (fun h => congrArg PV.str (orP_true h))) OpR.nes ?ta_t4) (by assumption)) ?ta_t6
                    case ta_u1 => walk_at "m.glob"
                    case ta_u2 => walk_at "m.keep"
                    case ta_u3 => walk_at "m.evs"
                    case ta_v1 => walk_at "m.ev"
                    case ta_v2 => with_unfolding_all rfl
                    case ta_v4 => intro _; rfl
                    case ta_v5 => decide
                    case ta_v6 => rfl
                    case ta_w1 => walk_at "m.ev"
                    case ta_w2 => rfl
                    case ta_v8 => intro h; rw [orP_false h]; exact EvalR.strc
                    case ta_w3 => decide
                    case ta_w4 =>
                      intro q hq hk
                      simp only [List.mem_cons, List.not_mem_nil, or_false] at hq
                      rcases hq with e | e | e | e <;> subst e <;> first | (cases hk; done) | rfl
                    case ta_w5 => decide
                    case ta_w6 => kernel_rfl
                    case ta_w7 =>
                      intro C cenv okc p hp
                      obtain ⟨z, hz, e⟩ := List.mem_map.mp hp
                      subst e
                      have okc : EnvOk cenv C [(".0", .local), ("one", .local), ("_law_depth", .globalImplicit), ("names", .cell)] [("names", _ + 1)] := okc
                      obtain ⟨q1, q2⟩ := FreeOk.dep (by assumption) z hz
                      have q3 := FreeOk.len (by assumption) z hz
                      have q4 : z.length ≤ 900000 := by lia
                      refine' Mine.E.iteml (ps := namesP.map .str) ?ta_x1 ?ta_x2 ?ta_x3 ?ta_x4 (name_at q1 q2)
                      case ta_x1 => walk_at "m.name"
                      case ta_x2 => walk_at "m.ev"
                      case ta_x3 => lia
                      case ta_x4 => lia
                    case ta_w8 => assumption
                    case ta_w9 => intro _; rfl
                    case ta_t4 => with_unfolding_all rfl
                    case ta_t6 => walk_at "m.leaf"
    case hnone =>
      intro x free given left i h1 h2 h3 h4 hfr hv
      obtain ⟨w1, w2, w3⟩ := wish_facts x
      have w4 : wishD x ≤ 1000 := by lia
      have w5 : (x.fmod 4096).fmod 11 ≤ 1000000 := by lia
      unfold LW
      refine' ⟨_, AssignR.name ?s1, ExecK.run ?s2⟩
      case s1 => walk_at "m.store"
      case s2 =>
        refine' ExecK.assignT (EvalR.call ?b1 ?b2 (EvalsR.cons ?b3 ?b4 (EvalsR.cons ?b5 (EvalR.bin EvalR.int (EvalR.bin (EvalR.call ?b6 ?b7 ?b8 (varint_c (n := n + 48) f (fun j => (L, .frame [("script", .list (script.map .int)), ("drawn", .list ((drawnP script).map .int)), ("sides", .str (sidesP ((drawnP script).sum.fmod 6))), ("flow", .con (.ref it)), ("free", .list (free.map .str)), ("left", .int (left : Int)), ("x", .int x)]) :: (gl, .lst (given.map .str)) :: (it, .biter (byteArr ((drawnP script).flatMap octs)) j) :: (L + 1 + 1, .cell (some (.con (.ref gl)))) :: (L + 1, .cell (some (.list (namesP.map .str)))) :: W) ?b9 hv)) EvalR.int (OpR.modi ?b10)) OpR.subi) (EvalsR.cons ?b11 ?b12 EvalsR.nil))) (given_none (n := n + 46) f free (wishD x) _ h1 h2 h3)) (AssignR.tup (AssignsR.cons ?c1 (AssignR.name ?c2) (AssignsR.cons ?c3 (AssignR.name ?c4) AssignsR.nil))) ?a3
        case b1 => walk_at "m.glob"
        case b2 => walk_at "m.keep"
        case b3 => with_unfolding_all rfl
        case b4 => walk_at "m.ev"
        case b5 => with_unfolding_all rfl
        case b6 => walk_at "m.glob"
        case b7 => walk_at "m.keep"
        case b8 => walk_at "m.evs"
        case b9 => intro _ _; walk_at "m.wput"
        case b10 => decide
        case b11 => with_unfolding_all rfl
        case b12 => walk_at "m.ev"
        case c1 => with_unfolding_all rfl
        case c2 => walk_at "m.store"
        case c3 => with_unfolding_all rfl
        case c4 => walk_at "m.store"
        case a3 =>
          refine' ExecK.assign (EvalR.is ?d1 (congrArg PV.int (wish_size x))) ?d3 ?d4
          case d1 => walk_at "m.ev"
          case d3 => walk_at "m.store"
          case d4 =>
            have hgt : (wishS x : Int) > (left : Int) := by lia
            with_reducible refine' ExecK.ifF (TestR.is (TestR.cmp ?e1 ?e2 OpR.neb ?e4) ?e5) ?e6
            case e1 => walk_at "m.ev"
            case e2 => walk_at "m.ev"
            case e4 => with_unfolding_all rfl
            case e5 =>
              show (!(true == decide ((wishS x : Int) > (left : Int)))) = false
              rw [decide_eq_true hgt]; rfl
            case e6 =>
              walk_at "m.x"
              with_reducible refine' ExecK.ifF (TestR.is ?f1 ?f2) ?f3
              case f1 => walk_at "m.test"
              case f2 => rfl
              case f3 =>
                walk_at "m.x"
                have hlt : left < 1024 := hfr.lt
                obtain ⟨j1, j2⟩ := flags_join hfr.num
                have j3 : (prettyP left != orP (Txt.join ", " (flagsP free))) = false := by rw [hfr.flags]; simp
                have j4 : (free.map PV.str).length ≤ 1000000 := by rw [List.length_map]; have := hfr.num; lia
                with_reducible refine' ExecK.ifF (TestR.is (TestR.cmp (EvalR.call ?tb_u1 ?tb_u2 ?tb_u3 (pretty_c (by assumption) (by assumption) (by lia))) (EvalR.or2 (Mine.E.join ?tb_v1 (EvalsR.cons ?tb_v2 (EvalR.is (EvalR.compA nameP (by assumption) ?tb_w1 IterR.list ?tb_w2 ?tb_w3 ?tb_w4 ?tb_w5 ?tb_w6 ?tb_w7 ?tb_w8 ?tb_w9) (congrArg PV.list (nameP_map _))) EvalsR.nil) (by assumption) ?tb_v4 ?tb_v5 ?tb_v6) (TruthR.str (by assumption)) ?tb_v8 (fun h => congrArg PV.str (orP_true h))) OpR.nes ?tb_t4) (by assumption)) ?tb_t6
                case tb_u1 => walk_at "m.glob"
                case tb_u2 => walk_at "m.keep"
                case tb_u3 => walk_at "m.evs"
                case tb_v1 => walk_at "m.ev"
                case tb_v2 => with_unfolding_all rfl
                case tb_v4 => intro _; rfl
                case tb_v5 => decide
                case tb_v6 => rfl
                case tb_w1 => walk_at "m.ev"
                case tb_w2 => rfl
                case tb_v8 => intro h; rw [orP_false h]; exact EvalR.strc
                case tb_w3 => decide
                case tb_w4 =>
                  intro q hq hk
                  simp only [List.mem_cons, List.not_mem_nil, or_false] at hq
                  rcases hq with e | e | e | e <;> subst e <;> first | (cases hk; done) | rfl
                case tb_w5 => decide
                case tb_w6 => kernel_rfl
                case tb_w7 =>
                  intro C cenv okc p hp
                  obtain ⟨z, hz, e⟩ := List.mem_map.mp hp
                  subst e
                  have okc : EnvOk cenv C [(".0", .local), ("one", .local), ("_law_depth", .globalImplicit), ("names", .cell)] [("names", _ + 1)] := okc
                  obtain ⟨q1, q2⟩ := FreeOk.dep (by assumption) z hz
                  have q3 := FreeOk.len (by assumption) z hz
                  have q4 : z.length ≤ 900000 := by lia
                  refine' Mine.E.iteml (ps := namesP.map .str) ?tb_x1 ?tb_x2 ?tb_x3 ?tb_x4 (name_at q1 q2)
                  case tb_x1 => walk_at "m.name"
                  case tb_x2 => walk_at "m.ev"
                  case tb_x3 => lia
                  case tb_x4 => lia
                case tb_w8 => assumption
                case tb_w9 => intro _; rfl
                case tb_t4 => with_unfolding_all rfl
                case tb_t6 => walk_at "m.leaf"
    unfold LW at c₈
    obtain ⟨G₈, l₈, c₉⟩ := Core.stillCell (W₁ := [(L, .frame [("script", .list (script.map .int)), ("drawn", .list ((drawnP script).map .int)), ("sides", .str (sidesP ((drawnP script).sum.fmod 6))), ("flow", .con (.ref it)), ("free", .list (free.map .str)), ("left", .int (left' : Int))])]) (W₂ := [(it, .biter (byteArr ((drawnP script).flatMap octs)) i')]) (W₃ := (L + 1, .cell (some (.list (namesP.map .str)))) :: W) c₈
    have c₉ : Core D F G₈ ((L, .frame [("script", .list (script.map .int)), ("drawn", .list ((drawnP script).map .int)), ("sides", .str (sidesP ((drawnP script).sum.fmod 6))), ("flow", .con (.ref it)), ("free", .list (free.map .str)), ("left", .int (left' : Int))]) :: (it, .biter (byteArr ((drawnP script).flatMap octs)) i') :: (L + 1 + 1, .cell (some (.list (given.map .str)))) :: (L + 1, .cell (some (.list (namesP.map .str)))) :: W) s₇ := c₉
    have hgn : given.length ≤ 6 := Nat.le_trans hgl hdl
    have hgz : (given.map PV.str).length ≤ 1000000 := by rw [List.length_map]; lia
    have hgz2 : (given.map PV.str).length ≤ 6 := by rw [List.length_map]; lia
    have hfz : ((upto ((given.map PV.str).length : Int)).flatMap fun p => (innP p).map (outP given p)).length ≤ 1000000 := by
      refine Nat.le_trans (flat_le (B := 6) fun p hp => ?_) ?_
      · obtain ⟨j, rfl, hj⟩ := mem_upto hp
        rw [List.length_map]
        show (upto (j : Int)).length ≤ 6
        rw [upto_len]; lia
      · rw [upto_len]; lia
    generalize hB : execs _ env = B
    refine' ExecS.goB hB (ExecS.assignComp2 innP srcP (outP given) ok ?r1 (IterR.range (m := ((given.map PV.str).length : Int)) (by lia) (by lia)) ?r3 ?r4 ?r5 ?r6 ?r7 ?r8 ?r9 ?r10 ?r11 ?r12 hfz ?r13 ?r14 ?r15 ?r16 ?r17 ?r18) rm c₉ fun G₉ s₉ l₉ c₁₀ => ?_
    case r1 => walk_at "m.ev"
    case r3 => rfl
    case r4 => decide
    case r5 =>
      intro q hq hk
      simp only [List.mem_cons, List.not_mem_nil, or_false] at hq
      rcases hq with rfl | rfl | rfl | rfl | rfl <;> first | (cases hk; done) | rfl
    case r6 => decide
    case r7 => kernel_rfl
    case r8 => kernel_rfl
    case r9 => kernel_rfl
    case r10 => intro _ _; rfl
    case r11 =>
      intro C cenv okc p hp σ hσ
      have okc : EnvOk cenv C [(".0", .local), ("j", .local), ("i", .local), ("range", .globalImplicit), ("given", .cell)] [("given", L + 1 + 1)] := okc
      obtain ⟨j, rfl, hj⟩ := mem_upto hp
      refine' ⟨?j1, IterR.range (m := (j : Int)) (by lia) (by lia)⟩
      case j1 =>
        show EvalR _ _ _ _ _ (.range (j : Int)) _
        rcases hσ with rfl | ⟨r, rfl⟩
        · walk_at "m.ev"
        · walk_at "m.ev"
    case r12 =>
      intro C cenv okc p hp q hq
      have okc : EnvOk cenv C [(".0", .local), ("j", .local), ("i", .local), ("range", .globalImplicit), ("given", .cell)] [("given", L + 1 + 1)] := okc
      obtain ⟨j, rfl, hj⟩ := mem_upto hp
      obtain ⟨i, rfl, hi⟩ := mem_upto (m := (j : Int)) hq
      have hjl : j < given.length := by rw [List.length_map] at hj; lia
      have hil : i < given.length := by lia
      refine' EvalR.list (EvalsR.cons ?y1 (Mine.E.iteml ?y2 ?y3 ?y4 ?y5 (given_at hil).1) (EvalsR.cons ?z1 (Mine.E.iteml ?z2 ?z3 ?z4 ?z5 (given_at hjl).1) EvalsR.nil)) (by decide)
      case y1 => with_unfolding_all rfl
      case y2 => walk_at "m.name"
      case y3 => walk_at "m.name"
      case y4 => lia
      case y5 => lia
      case z1 => with_unfolding_all rfl
      case z2 => walk_at "m.name"
      case z3 => walk_at "m.name"
      case z4 => lia
      case z5 => lia
    case r13 => walk_at "m.store"
    case r14 => kernel_rfl
    case r15 => intro h; exact h
    case r16 => rfl
    case r17 => kernel_rfl
    case r18 => intro _; rfl
    generalize hB : execs _ env = B
    refine' ExecS.goB hB (ExecS.if (b := false) ?t1 (fun h => nomatch h) fun _ => ExecR.nil) rm c₁₀ fun G₁₀ s₁₀ l₁₀ c₁₁ => ?_
    case t1 =>
      with_reducible refine' TestR.cmp (EvalR.is (EvalR.comp1 (fun _ => Option.none) ok ?v1 IterR.list ?v3 ?v4 ?v5 ?v6 ?v7 ?v8 ?v9 ?v10 ?v11) (congrArg PV.list (filterMap_no _))) (EvalR.list EvalsR.nil (by decide)) (OpR.neln (n := n + 45)) ?v12
      case v1 => walk_at "m.name"
      case v3 => rfl
      case v4 => decide
      case v5 =>
        intro q hq hk
        simp only [List.mem_cons, List.not_mem_nil, or_false] at hq
        rcases hq with rfl | rfl | rfl <;> cases hk
      case v6 => decide
      case v7 => kernel_rfl
      case v8 =>
        intro C cenv okc p hp _
        have okc : EnvOk cenv C [(".0", .local), ("pair", .local), ("commonpath", .globalImplicit)] [] := okc
        obtain ⟨p1, hp1, hp⟩ := List.mem_flatMap.mp hp
        obtain ⟨q1, hq1, rfl⟩ := List.mem_map.mp hp
        obtain ⟨j, rfl, hj⟩ := mem_upto hp1
        obtain ⟨i, rfl, hi⟩ := mem_upto (m := (j : Int)) hq1
        have hjl : j < given.length := by rw [List.length_map] at hj; lia
        have hil : i < given.length := by lia
        have hap := hpairs i j _ _ (by lia) (given_at hil).2 (given_at hjl).2
        obtain ⟨dd, aa, bb, hpart, hsum, hlen, hx, hy⟩ := hap.part
        have e1 : outP given (.int (j : Int)) (.int (i : Int)) = .list [.str (given.getD i ""), .str (given.getD j "")] := rfl
        rw [e1]
        refine' IfsR.no (TestR.is (TestR.cmp (EvalR.call ?w1 ?w2 ?w3 (common_c f hap.lx hap.ly hap.sx hap.sy hpart hsum hlen (by lia))) (EvalR.is ?w4 ?w7) (OpR.inl (xs := [given.getD i "", given.getD j ""])) ?w5) ?w6)
        case w1 => walk_at "m.glob"
        case w2 => walk_at "m.keep"
        case w3 => walk_at "m.evs"
        case w4 => walk_at "m.name"
        case w7 => rfl
        case w5 => with_unfolding_all rfl
        case w6 =>
          simp only [List.any_cons, List.any_nil, Bool.or_false]
          rw [Bool.or_eq_false_iff]
          exact ⟨by rw [BEq.comm]; exact hx, by rw [BEq.comm]; exact hy⟩
      case v9 => intro C cenv okc p hp q ho; cases ho
      case v10 => rw [filterMap_no]; exact Nat.zero_le _
      case v11 => intro _; rfl
      case v12 => with_unfolding_all rfl
    have hW : FramesIn [env] ((L, .frame [("script", .list (script.map .int)), ("drawn", .list ((drawnP script).map .int)), ("sides", .str (sidesP ((drawnP script).sum.fmod 6))), ("flow", .con (.ref it)), ("free", .list (free.map .str)), ("left", .int (left' : Int)), ("pairs", .list ((upto ((given.map PV.str).length : Int)).flatMap fun p => (innP p).map (outP given p)))]) :: (it, .biter (byteArr ((drawnP script).flatMap octs)) i') :: (L + 1 + 1, .cell (some (.list (given.map .str)))) :: (L + 1, .cell (some (.list (namesP.map .str)))) :: W) := by
      intro env' hm
      rw [List.mem_singleton.mp hm]
      exact ⟨hkm, L, _, hf, .head _⟩
    have hol : (ordS (drawnP script) given given.length).1.length = given.length := (ordS_len (drawnP script) given given.length (Nat.le_refl _)).1
    have hg1 : given.length ≤ 1000 := by lia
    have hd1 : (drawnP script).length ≤ 1000 := by lia
    refine' wpAny_execs_cons (forW (p := .list ((ordS (drawnP script) given given.length).1.map .str)) (ps := (ordS (drawnP script) given given.length).1.map .str) IterR.list (backFor (n := n + 49) (fun fr => (L, .frame [("script", .list (script.map .int)), ("drawn", .list ((drawnP script).map .int)), ("sides", .str (sidesP ((drawnP script).sum.fmod 6))), ("flow", .con (.ref it)), ("free", .list (fr.map .str)), ("left", .int (left' : Int)), ("pairs", .list ((upto ((given.map PV.str).length : Int)).flatMap fun p => (innP p).map (outP given p)))]) :: (it, .biter (byteArr ((drawnP script).flatMap octs)) i') :: (L + 1 + 1, .cell (some (.list (given.map .str)))) :: (L + 1, .cell (some (.list (namesP.map .str)))) :: W) ?bstep hback) ?bs A F G₁₀ s₁₀ _ E rm ?bev fun G₁₁ s₁₁ l₁₁ c₁₂ => ?_)
    case bs => intro _; rfl
    case bstep =>
      intro fr fr' p h
      show ∃ W₁, AssignR _ _ _ ((L, .frame [("script", .list (script.map .int)), ("drawn", .list ((drawnP script).map .int)), ("sides", .str (sidesP ((drawnP script).sum.fmod 6))), ("flow", .con (.ref it)), ("free", .list (fr.map .str)), ("left", .int (left' : Int)), ("pairs", .list ((upto ((given.map PV.str).length : Int)).flatMap fun p => (innP p).map (outP given p)))]) :: (it, .biter (byteArr ((drawnP script).flatMap octs)) i') :: (L + 1 + 1, .cell (some (.list (given.map .str)))) :: (L + 1, .cell (some (.list (namesP.map .str)))) :: W) _ _ W₁ ∧ ExecR _ _ _ W₁ _ (.next ((L, .frame [("script", .list (script.map .int)), ("drawn", .list ((drawnP script).map .int)), ("sides", .str (sidesP ((drawnP script).sum.fmod 6))), ("flow", .con (.ref it)), ("free", .list (fr'.map .str)), ("left", .int (left' : Int)), ("pairs", .list ((upto ((given.map PV.str).length : Int)).flatMap fun p => (innP p).map (outP given p)))]) :: (it, .biter (byteArr ((drawnP script).flatMap octs)) i') :: (L + 1 + 1, .cell (some (.list (given.map .str)))) :: (L + 1, .cell (some (.list (namesP.map .str)))) :: W))
      refine' ⟨_, AssignR.name ?s1, ExecK.run ?s2⟩
      case s1 => walk_at "m.store"
      case s2 =>
        refine' ExecK.assign (EvalR.call ?a1 ?a2 ?a3 (back_c f hs2 h (by lia))) ?a4 ?a5
        case a1 => walk_at "m.glob"
        case a2 => walk_at "m.keep"
        case a3 => walk_at "m.evs"
        case a4 => walk_at "m.store"
        case a5 =>
          with_reducible refine' ExecK.cutF ?ks ?kk
          case kk => (repeat walk_at "m.nil"); with_reducible exact ExecK.done
          case ks => walk_at "m.subsig"
    case bev =>
      intro Q hQ
      refine' callNameF ?z1 ?z2 (EvalsR.cons ?z3 (Mine.E.join (ys := (ordS (drawnP script) given given.length).1.map quoteP) ?z4 (EvalsR.cons ?z5 (EvalR.is (EvalR.compA quoteV ok (EvalR.call ?y1 ?y2 ?y3 (order_c f hg1 hgl hd1 (by lia))) IterR.list ?y4 ?y5 ?y6 ?y7 ?y8 ?y9 ?y10 ?y11) (congrArg PV.list (quoteV_map _))) EvalsR.nil) hjs ?z6 ?z7 ?z8) EvalsR.nil) A F G₁₀ s₁₀ Q E rm c₁₁ fun G' vs s' l' c' rs => ?zz
      case z1 => walk_at "m.glob"
      case z2 => walk_at "m.keep"
      case z3 => with_unfolding_all rfl
      case z4 => walk_at "m.ev"
      case z5 => with_unfolding_all rfl
      case z6 => intro _; rfl
      case z7 => decide
      case z8 => rfl
      case y1 => walk_at "m.glob"
      case y2 => walk_at "m.keep"
      case y3 => walk_at "m.evs"
      case y4 => rfl
      case y5 => decide
      case y6 =>
        intro q hq hk
        simp only [List.mem_cons, List.not_mem_nil, or_false] at hq
        rcases hq with rfl | rfl | rfl <;> cases hk
      case y7 => decide
      case y8 => kernel_rfl
      case y9 =>
        intro C cenv okc p hp
        obtain ⟨y, hy, rfl⟩ := List.mem_map.mp hp
        have okc : EnvOk cenv C [(".0", .local), ("one", .local), ("quote", .globalImplicit)] [] := okc
        obtain ⟨u1, u2, u3, u4⟩ := hqs y hy
        show EvalR _ _ _ _ _ (.str (quoteP y)) _
        with_reducible refine' EvalR.call ?w1 ?w2 ?w3 (quote_c f u1 (by lia) u3 (by lia) (by lia))
        case w1 => walk_at "m.glob"
        case w2 => walk_at "m.keep"
        case w3 => walk_at "m.evs"
      case y10 => rw [List.length_map]; lia
      case y11 => intro _; rfl
      case zz =>
        obtain ⟨v1, rfl, r1⟩ := RepAll.one rs
        exact split_spec (n := n + 29) f _ hjl htoks (by lia) A F G' s' _ Q E rm hfr hW c' r1 fun G'' v s'' l'' c'' r'' => hQ G'' v s'' (l'.trans l'') c'' r''
    have c₁₂ : Core D F G₁₁ ((L, .frame [("script", .list (script.map .int)), ("drawn", .list ((drawnP script).map .int)), ("sides", .str (sidesP ((drawnP script).sum.fmod 6))), ("flow", .con (.ref it)), ("free", .list [.str "/"]), ("left", .int (left' : Int)), ("pairs", .list ((upto ((given.map PV.str).length : Int)).flatMap fun p => (innP p).map (outP given p)))]) :: (it, .biter (byteArr ((drawnP script).flatMap octs)) i') :: (L + 1 + 1, .cell (some (.list (given.map .str)))) :: (L + 1, .cell (some (.list (namesP.map .str)))) :: W) s₁₁ := c₁₂
    refine' wpAny_execs_cons (wpAny_Return_some ((EvalR.cmp ?e1 ?e2 (OpR.eqls (n := n + 45) (x := "/") ?e3) ?e4) A F G₁₁ s₁₁ _ E rm c₁₂ fun G₁₂ v s₁₂ l₁₂ c₁₃ rv => ?_))
    case e1 => walk_at "m.name"
    case e2 => walk_at "m.ev"
    case e3 => kernel_rfl
    case e4 => with_unfolding_all rfl
    exact k G₁₂ v s₁₂ (((((((((((l₁.trans l₂).trans l₃).trans l₄).trans l₅).trans l₆).trans l₇).trans l₈).trans l₉).trans l₁₀).trans l₁₁).trans l₁₂) (c₁₃.sub (.cons _ (.cons _ (.cons _ (.cons _ (List.Sublist.refl _)))))) rv
end
end

section
open PySem PySem.W PyProof.Rows PySem.Calls PyProof.V
set_option maxHeartbeats 1000000
noncomputable def pows (es : List Nat) : Nat := (es.map (2 ^ ·)).sum
theorem pows_succ (es : List Nat) : pows (es.map (· + 1)) = 2 * pows es := by
  induction es with
  | nil => rfl
  | cons e es ih =>
    unfold pows at ih ⊢
    rw [List.map_cons, List.map_cons, List.sum_cons, List.map_cons, List.sum_cons, ih, Nat.pow_succ]
    lia
theorem preds {es : List Nat} (h : ∀ e ∈ es, e ≠ 0) : es = (es.map (· - 1)).map (· + 1) := by
  induction es with
  | nil => rfl
  | cons e es ih =>
    have := h e (.head _)
    rw [List.map_cons, List.map_cons, ← ih fun a ha => h a (.tail _ ha)]
    congr 1; lia
theorem bits_shift (n m : Nat) (q : Bool) : (List.range (n + 1)).filter (fun i => (2 * m + q.toNat).testBit i) = (if q = true then [0] else []) ++ ((List.range n).filter fun i => m.testBit i).map (· + 1) := by
  rw [List.range_succ_eq_map, List.filter_cons, List.filter_map]
  have h0 : (2 * m + q.toNat).testBit 0 = q := by cases q <;> simp [Nat.testBit_zero] <;> lia
  have h1 : (fun i => (2 * m + q.toNat).testBit i) ∘ Nat.succ = fun i => m.testBit i := by
    funext i
    show (2 * m + q.toNat).testBit (i + 1) = _
    rw [Nat.testBit_succ]
    congr 1
    cases q <;> simp <;> lia
  rw [h0, h1]
  cases q <;> rfl
theorem bits : ∀ (n : Nat) (es : List Nat), es.Pairwise (· < ·) → (∀ e ∈ es, e < n) → (List.range n).filter (fun i => (pows es).testBit i) = es
  | 0, es, _, h => by
    cases es with
    | nil => rfl
    | cons e es => exact absurd (h e (.head _)) (by lia)
  | n + 1, es, hp, h => by
    have key : ∀ ts : List Nat, ts.Pairwise (· < ·) → (∀ e ∈ ts, e ≠ 0 ∧ e < n + 1) → ((List.range n).filter fun i => (pows (ts.map (· - 1))).testBit i).map (· + 1) = ts ∧ pows ts = 2 * pows (ts.map (· - 1)) := by
      intro ts ht hm
      have e1 := preds fun e he => (hm e he).1
      have ih := bits n (ts.map (· - 1)) (by
        rw [List.pairwise_map]
        refine ht.imp_of_mem fun {a b} ha hb hab => ?_
        have := (hm a ha).1; have := (hm b hb).1; lia) (fun e he => by
        obtain ⟨a, ha, rfl⟩ := List.mem_map.mp he
        have := hm a ha; lia)
      refine ⟨by rw [ih, ← e1], ?_⟩
      conv => lhs; rw [e1]
      exact pows_succ _
    cases es with
    | nil =>
      obtain ⟨k1, k2⟩ := key [] .nil (fun e he => nomatch he)
      have := bits_shift n 0 false
      simpa [pows] using this
    | cons e ts =>
      rw [List.pairwise_cons] at hp
      by_cases he : e = 0
      · subst he
        obtain ⟨k1, k2⟩ := key ts hp.2 (fun a ha => ⟨by have := hp.1 a ha; lia, h a (.tail _ ha)⟩)
        have e3 : pows (0 :: ts) = 2 * pows (ts.map (· - 1)) + true.toNat := by
          have : pows (0 :: ts) = 1 + pows ts := by simp [pows]
          rw [this, k2]; simp; lia
        rw [e3, bits_shift, k1]; rfl
      · obtain ⟨k1, k2⟩ := key (e :: ts) (List.pairwise_cons.mpr hp) (fun a ha => ⟨by
          rcases List.mem_cons.mp ha with rfl | ha
          · exact he
          · have := hp.1 a ha; lia, h a ha⟩)
        have e3 : pows (e :: ts) = 2 * pows ((e :: ts).map (· - 1)) + false.toNat := by rw [k2]; simp
        rw [e3, bits_shift, k1]; rfl
theorem names_eq : flagTab.map (·.2) = namesP := by decide +kernel
section
variable {c : Bool → Nat}
theorem sz_le {r : Path} {F : List Path} (h : r ∈ F) : sz r ≤ szs F := by
  induction F with
  | nil => cases h
  | cons a F ih =>
    rw [szs_cons]
    rcases List.mem_cons.mp h with rfl | h
    · lia
    · have := ih h; lia
theorem flags_place (h : Signs c) {F G : List Path} {left : Nat} (I : Inv F G left) (hl : left < 1024) : FreeOk (F.map (plS c)) left := by
  have hpos : ∀ r ∈ F, 1 ≤ r.length := fun r hr => by
    have h1 := sz_le hr
    rw [I.sum] at h1
    cases r with
    | nil => exact absurd h1 (by show ¬ 2 ^ 10 ≤ left; lia)
    | cons b r => simp
  have hnum := desc_short F 11 I.desc fun r hr => by have := I.le r hr; lia
  have hexp : (F.map fun r => 10 - r.length).Pairwise (· < ·) := by
    rw [List.pairwise_map]
    refine I.desc.imp_of_mem fun {a b} ha hb hab => ?_
    have := I.le a ha; lia
  have hpow : pows (F.map fun r => 10 - r.length) = left := by
    rw [← I.sum]; unfold pows szs
    rw [List.map_map]; rfl
  have hb := bits 10 _ hexp fun e he => by
    obtain ⟨r, hr, rfl⟩ := List.mem_map.mp he
    have := hpos r hr; lia
  rw [hpow] at hb
  have hnm : flagsP (F.map (plS c)) = nm left 10 := by
    unfold flagsP nm
    rw [hb, List.map_map, List.map_map]
    refine List.map_congr_left fun r _ => ?_
    show namesP.getD (10 - depthP (plS c r)) "" = nameOf (10 - r.length)
    rw [depth_place h]
    unfold nameOf
    rw [names_eq]
  refine ⟨by rw [List.length_map]; lia, fun y hy => ?_, fun y hy => ?_, hl, ?_⟩
  · obtain ⟨r, hr, rfl⟩ := List.mem_map.mp hy
    have := plS_le (c := c) r; have := I.le r hr; lia
  · obtain ⟨r, hr, rfl⟩ := List.mem_map.mp hy
    rw [depth_place h]
    exact ⟨hpos r hr, I.le r hr⟩
  · rw [hnm]
    unfold prettyP
    by_cases h0 : left = 0
    · rw [if_pos h0]
      subst h0
      decide +kernel
    · rw [if_neg h0]
      refine orP_true ?_
      have hF : F ≠ [] := by
        rintro rfl
        apply h0
        rw [← I.sum]; rfl
      rw [← hnm]
      cases F with
      | nil => exact absurd rfl hF
      | cons r F =>
        unfold flagsP
        rw [List.map_cons, List.map_cons, txtJoin]
        rw [bne_iff_ne, len_join_cons]
        have hne : ∀ k, k < 10 → (namesP.getD k "").length ≠ 0 := by decide +kernel
        have h1 := hpos r (.head _)
        have h2 := hne (10 - depthP (plS c r)) (by rw [depth_place h]; lia)
        rw [List.map_cons, List.sum_cons]
        lia
noncomputable def kAtN (x : Int) (n : Nat) : Nat := ((x.fdiv 11).fmod n).toNat
noncomputable def ordQ (xs : List Int) (g : List Path) : Nat → List Path × List Path
  | 0 => ([], g)
  | i + 1 => ((ordQ xs g i).1 ++ [(ordQ xs g i).2.getD (kAtN (xs.getD i 0) (ordQ xs g i).2.length) []], (ordQ xs g i).2.take (kAtN (xs.getD i 0) (ordQ xs g i).2.length) ++ (ordQ xs g i).2.drop (kAtN (xs.getD i 0) (ordQ xs g i).2.length + 1))
theorem getD_some {α : Type} {l : List α} {k : Nat} (d : α) (h : k < l.length) : l[k]? = some (l.getD k d) := by
  rw [List.getD_eq_getElem?_getD, List.getElem?_eq_getElem h]; rfl
theorem kAtN_lt (x : Int) {n : Nat} (h : 0 < n) : kAtN x n < n := by
  unfold kAtN
  have h1 := Int.fmod_lt_of_pos (x.fdiv 11) (b := (n : Int)) (by lia)
  have h2 := Int.fmod_nonneg_of_pos (x.fdiv 11) (b := (n : Int)) (by lia)
  lia
theorem ordQ_facts (xs : List Int) (g : List Path) : ∀ i, i ≤ g.length → (ordQ xs g i).2.length = g.length - i ∧ (∀ w, tot w (ordQ xs g i).1 + tot w (ordQ xs g i).2 = tot w g) ∧ (∀ p ∈ (ordQ xs g i).1, p ∈ g) ∧ (∀ p ∈ (ordQ xs g i).2, p ∈ g) ∧
    ordS xs (g.map (plS c)) i = ((ordQ xs g i).1.map (plS c), (ordQ xs g i).2.map (plS c))
  | 0, _ => ⟨rfl, fun w => by show tot w [] + tot w g = _; rw [tot_nil, Nat.zero_add], fun p hp => (nomatch hp), fun p hp => hp, rfl⟩
  | i + 1, hi => by
    obtain ⟨h1, h2, h3, h4, h5⟩ := ordQ_facts xs g i (by lia)
    have hk := kAtN_lt (xs.getD i 0) (n := (ordQ xs g i).2.length) (by lia)
    have hget : (ordQ xs g i).2[kAtN (xs.getD i 0) (ordQ xs g i).2.length]? = some ((ordQ xs g i).2.getD (kAtN (xs.getD i 0) (ordQ xs g i).2.length) []) := getD_some _ hk
    have hmem := List.mem_of_getElem? hget
    have hcut := cutAt hget
    refine ⟨?_, fun w => ?_, fun p hp => ?_, fun p hp => ?_, ?_⟩
    · exact (cut_len hk).trans (by rw [h1]; exact Nat.sub_sub _ _ 1)
    · show tot w (_ ++ _) + tot w (List.take _ _ ++ List.drop _ _) = _
      rw [← h2 w, tot_append, tot_append, tot_cons, tot_nil]
      conv => rhs; rhs; rw [hcut]
      rw [tot_append, tot_cons]
      lia
    · rcases List.mem_append.mp hp with hp | hp
      · exact h3 p hp
      · rw [List.mem_singleton.mp hp]; exact h4 _ hmem
    · rcases List.mem_append.mp hp with hp | hp
      · exact h4 p (List.mem_of_mem_take hp)
      · exact h4 p (List.mem_of_mem_drop hp)
    · unfold ordS
      rw [h5]
      dsimp only
      have ek : kAt (xs.getD i 0) ((ordQ xs g i).2.map (plS c)) = kAtN (xs.getD i 0) (ordQ xs g i).2.length := by unfold kAt kAtN; rw [List.length_map]
      rw [ek]
      refine Prod.ext ?_ ?_
      · show _ ++ _ = List.map _ (_ ++ _)
        rw [List.map_append]
        congr 1
        rw [List.map_cons, List.map_nil, List.getD_eq_getElem?_getD, List.getElem?_map, hget]
        rfl
      · show _ ++ _ = List.map _ (_ ++ _)
        rw [List.map_append, List.map_take, List.map_drop]
theorem first_diff : ∀ (u v : List Bool), ¬ u <+: v → ¬ v <+: u → ∃ (d : Nat) (a b : Bool), (∀ i < d, ∃ z : Bool, u[i]? = some z ∧ v[i]? = some z) ∧ u[d]? = some a ∧ v[d]? = some b ∧ a ≠ b
  | [], v, h, _ => absurd (List.nil_prefix) h
  | a :: u, [], _, h => absurd (List.nil_prefix) h
  | a :: u, b :: v, h1, h2 => by
    by_cases hab : a = b
    · subst hab
      obtain ⟨d, a', b', h3, h4, h5, h6⟩ := first_diff u v (fun h => h1 (List.cons_prefix_cons.mpr ⟨rfl, h⟩)) (fun h => h2 (List.cons_prefix_cons.mpr ⟨rfl, h⟩))
      refine ⟨d + 1, a', b', fun i hi => ?_, h4, h5, h6⟩
      cases i with
      | zero => exact ⟨a, rfl, rfl⟩
      | succ i => exact h3 i (by lia)
    · exact ⟨0, a, b, fun i hi => absurd hi (by lia), rfl, rfl, hab⟩
theorem plS_starts (r : Path) : Txt.startswith (plS c r) "/" = true := by
  rw [slash_eq, starts_one]
  cases r with
  | nil => rfl
  | cons b r =>
    rw [plS_cons]
    have : ∀ r : Path, (plN c r ++ [47, c b])[0]? = some 47 := by
      intro r
      rw [plN_flat]
      cases r.reverse with
      | nil => rfl
      | cons a l => rfl
    rw [this]; rfl
theorem apart_place (h : Signs c) {x y : Path} (hx : x.length ≤ 10) (hy : y.length ≤ 10) (h1 : ¬ x <:+ y) (h2 : ¬ y <:+ x) : ApartP (plS c x) (plS c y) := by
  obtain ⟨d, a, b, k1, k2, k3, k4⟩ := first_diff x.reverse y.reverse (fun e => h1 (List.reverse_prefix.mp e)) (fun e => h2 (List.reverse_prefix.mp e))
  have hdx : d < x.length := by have := (List.getElem?_eq_some_iff.mp k2).1; rwa [List.length_reverse] at this
  have hdy : d < y.length := by have := (List.getElem?_eq_some_iff.mp k3).1; rwa [List.length_reverse] at this
  have hlen : ((namesOf c x).take d).length ≤ d := by rw [List.length_take]; lia
  have hone : ∀ z ∈ (namesOf c x).take d, z.length ≤ 1 := fun z hz => by
    obtain ⟨b', _, rfl⟩ := List.mem_map.mp (List.mem_of_mem_take hz)
    exact Nat.le_refl _
  have hsum := sum_le_of hone
  have hsl : ("/" : PySem.Str).length = 1 := by decide
  have hjl := txtJoin_le "/" ((namesOf c x).take d)
  rw [hsl] at hjl
  have hbig : ∀ z : Path, d < z.length → (("/" ++ Txt.join "/" ((namesOf c x).take d)) == plS c z) = false := fun z hz => by
    rw [beq_eq_false_iff_ne]
    intro e
    have e2 := congrArg PySem.Str.length e
    rw [PySem.Str.length_append, hsl, plS_len, if_neg (by rintro rfl; simp at hz)] at e2
    lia
  refine ⟨?_, ?_, plS_starts x, plS_starts y, d, S1 (c a), S1 (c b), ?_, ?_, ?_, ?_, ?_⟩
  · have := plS_le (c := c) x; lia
  · have := plS_le (c := c) y; lia
  · rw [comps_place h, comps_place h]
    refine ⟨fun i hi => ?_, ?_, ?_, fun e => k4 (h.inj (S1_inj e))⟩
    · obtain ⟨z, e1, e2⟩ := k1 i hi
      exact ⟨S1 (c z), by unfold namesOf; rw [List.getElem?_map, e1]; rfl, by unfold namesOf; rw [List.getElem?_map, e2]; rfl⟩
    · unfold namesOf; rw [List.getElem?_map, k2]; rfl
    · unfold namesOf; rw [List.getElem?_map, k3]; rfl
  · rw [comps_place h, hsl]; lia
  · rw [comps_place h]; lia
  · rw [comps_place h]; exact hbig x hdx
  · rw [comps_place h]; exact hbig y hdy
end
end

section
open PySem PySem.W PyProof.Rows PySem.Calls PyProof.V
set_option maxHeartbeats 1000000
noncomputable def encN (k : Nat) : List Nat := if k = 39 then [39, 34, 39, 34, 39] else [k]
noncomputable def qN (xs : List Nat) : List Nat := if (xs.all fun k => !unsafeC k) = true then xs else 39 :: (xs.flatMap encN ++ [39])
theorem joinWith (z x : PySem.Str) : ∀ l : List PySem.Str, (PySem.Str.join z (x :: l)).cps.toList = x.cps.toList ++ l.flatMap fun p => z.cps.toList ++ p.cps.toList
  | [] => by rw [List.flatMap_nil, List.append_nil]; rfl
  | y :: l => by
    show (x ++ z ++ PySem.Str.join z (y :: l)).cps.toList = _
    rw [app_list, app_list, joinWith z y l, List.flatMap_cons]
    simp
theorem flat_free {k : Nat} {f : Nat → List Nat} (hf : ∀ j, j ≠ k → f j = [j]) : ∀ l : List Nat, k ∉ l → l.flatMap f = l
  | [], _ => rfl
  | a :: l, h => by
    rw [List.flatMap_cons, hf a (fun e => h (e ▸ List.mem_cons_self ..)), flat_free hf l (fun e => h (.tail _ e))]; rfl
theorem quot_eq : ("'" : PySem.Str) = ⟨#[39]⟩ := by decide +kernel
theorem quot5_eq : ("'\"'\"'" : PySem.Str) = ⟨#[39, 34, 39, 34, 39]⟩ := by decide +kernel
theorem sp_eq : (" " : PySem.Str) = S1 32 := by decide +kernel
theorem encN_free {j : Nat} (h : j ≠ 39) : encN j = [j] := if_neg h
theorem repl_list (x : PySem.Str) : (Txt.replace x "'" "'\"'\"'").cps.toList = x.cps.toList.flatMap encN := by
  rw [quot_eq, StrLaws.replace_one]
  have h1 := StrLaws.join_split x ⟨#[39]⟩
  have hf := StrLaws.split_free x 39
  cases hs : Txt.split x ⟨#[39]⟩ with
  | nil => exact absurd hs (split_ne _ _)
  | cons p l =>
    rw [hs] at h1 hf
    have h2 : (PySem.Str.join ⟨#[39]⟩ (p :: l)).cps.toList = x.cps.toList := congrArg (fun s : PySem.Str => s.cps.toList) h1
    rw [joinCons] at h2
    rw [← h2, joinWith, quot5_eq, List.flatMap_append, flat_free (fun j hj => encN_free hj) _ (hf p (.head _))]
    congr 1
    have : ∀ l : List PySem.Str, (∀ q ∈ l, 39 ∉ q.cps.toList) → (l.flatMap fun q => [39, 34, 39, 34, 39] ++ q.cps.toList) = (l.flatMap fun q => 39 :: q.cps.toList).flatMap encN := by
      intro l hl
      induction l with
      | nil => rfl
      | cons q l ih =>
        rw [List.flatMap_cons, List.flatMap_cons, List.flatMap_append, List.flatMap_cons, flat_free (fun j hj => encN_free hj) _ (hl q (.head _)), ih fun r hr => hl r (.tail _ hr)]
        rfl
    exact this l fun q hq => hf q (.tail _ hq)
theorem quote_list (x : PySem.Str) : (quoteP x).cps.toList = qN x.cps.toList := by
  unfold quoteP qN safeT
  split
  · rfl
  · rw [app_list, app_list, repl_list, quot_eq]
    rfl
theorem enc_one (k : Nat) : (encN k).length ≤ 5 := by unfold encN; split <;> simp
theorem enc_len : ∀ xs : List Nat, (xs.flatMap encN).length ≤ 5 * xs.length
  | [] => Nat.le_refl 0
  | k :: xs => by
    have h1 := enc_len xs
    have h2 := enc_one k
    have e : ((k :: xs).flatMap encN).length = (encN k).length + (xs.flatMap encN).length := by rw [List.flatMap_cons, List.length_append]
    rw [e, List.length_cons]
    lia
theorem qN_len (xs : List Nat) : (qN xs).length ≤ 5 * xs.length + 2 := by
  unfold qN
  have := enc_len xs
  split
  · lia
  · rw [List.length_cons, List.length_append]
    have : ([39] : List Nat).length = 1 := rfl
    lia
theorem sign_ok {k : Nat} (h : k ∈ alph) : SignOk (S1 k) := by
  simp only [Mine.alph, List.mem_cons, List.not_mem_nil, or_false] at h
  rcases h with rfl | rfl | rfl | rfl | rfl | rfl | rfl <;> exact ⟨rfl, by decide +kernel, by decide +kernel, by decide +kernel⟩
theorem ws_of {k : Nat} (h : k ∈ alph) : Txt.contains " \t\r\n" (S1 k) = (k == 32) := by
  simp only [Mine.alph, List.mem_cons, List.not_mem_nil, or_false] at h
  rcases h with rfl | rfl | rfl | rfl | rfl | rfl | rfl <;> decide +kernel
theorem word_of {k : Nat} (h : k ∈ alph) : Txt.contains wordC (S1 k) = (k == 97 || k == 98) := by
  simp only [Mine.alph, List.mem_cons, List.not_mem_nil, or_false] at h
  rcases h with rfl | rfl | rfl | rfl | rfl | rfl | rfl <;> decide +kernel
theorem quo_of {k : Nat} (h : k ∈ alph) : Txt.contains "'\"" (S1 k) = (k == 39 || k == 34) := by
  simp only [Mine.alph, List.mem_cons, List.not_mem_nil, or_false] at h
  rcases h with rfl | rfl | rfl | rfl | rfl | rfl | rfl <;> decide +kernel
theorem S1_beq (a b : Nat) : (S1 a == S1 b) = (a == b) := by
  rw [Bool.eq_iff_iff, beq_iff_eq, beq_iff_eq]
  exact ⟨S1_inj, fun e => by rw [e]⟩
noncomputable def At_ (z : PySem.Str) (i : Nat) (l : List Nat) : Prop := z.cps.toList.drop i = l
theorem At_.cons {z : PySem.Str} {i k : Nat} {l : List Nat} (h : At_ z i (k :: l)) : i < z.length ∧ chA z i = S1 k ∧ At_ z (i + 1) l := by
  have h0 : z.cps.toList.drop i = k :: l := h
  have hi : i < z.cps.toList.length := by
    have := congrArg List.length h0
    rw [List.length_drop, List.length_cons] at this; lia
  have hk : z.cps.toList[i]? = some k := by
    have := List.getElem?_drop (xs := z.cps.toList) (i := i) (j := 0)
    rw [h0] at this
    simpa using this.symm
  refine ⟨by rw [len_list]; exact hi, chA_list z hk, ?_⟩
  show z.cps.toList.drop (i + 1) = l
  rw [← List.drop_drop, h0]; rfl
theorem At_.nil {z : PySem.Str} {i : Nat} (h : At_ z i []) : z.length ≤ i := by
  rw [len_list]
  exact List.drop_eq_nil_iff.mp h
section
variable {z : PySem.Str} {sf : PV} {t : PySem.Str} {q' : Bool} {i' : Nat}
theorem stepAt {i k : Nat} {l : List Nat} {st tk st' tk' : PySem.Str} {q q₁ : Bool} (h : At_ z i (k :: l)) (hk : k ∈ alph) (ht : tk.length ≤ 100000) (s : StepT st (S1 k) tk q st' tk' q₁) (r : TokR z (i + 1) st' tk' q₁ sf t q' i') : TokR z i st tk q sf t q' i' := by
  obtain ⟨h1, h2, _⟩ := h.cons
  rw [← h2] at s
  exact .step h1 (h2 ▸ sign_ok hk) ht s r
theorem mk_cons (tk : PySem.Str) (k : Nat) (xs : List Nat) : tk ++ S1 k ++ mkS xs = tk ++ mkS (k :: xs) := by
  apply ext_list; rw [app_list, app_list, app_list]; simp [S1, mkS]
theorem app_len (tk : PySem.Str) (k : Nat) : (tk ++ S1 k).length = tk.length + 1 := PySem.Str.length_append _ _
theorem app_nil (tk : PySem.Str) : tk ++ mkS [] = tk := by apply ext_list; rw [app_list]; simp [mkS]
theorem wordRun : ∀ (xs : List Nat) (i : Nat) (l : List Nat) (tk : PySem.Str) (q : Bool), At_ z i (xs ++ l) → (∀ k ∈ xs, k ∈ alph ∧ unsafeC k = false) → tk.length + xs.length ≤ 100000 → TokR z (i + xs.length) "a" (tk ++ mkS xs) q sf t q' i' → TokR z i "a" tk q sf t q' i'
  | [], i, l, tk, q, _, _, _, r => by rw [app_nil] at r; exact r
  | k :: xs, i, l, tk, q, h, hx, ht, r => by
    obtain ⟨hk, hu⟩ := hx k (.head _)
    rw [List.length_cons] at ht
    have e : k ≠ 32 ∧ k ≠ 39 ∧ k ≠ 34 := by
      simp only [Mine.alph, List.mem_cons, List.not_mem_nil, or_false] at hk
      rcases hk with rfl | rfl | rfl | rfl | rfl | rfl | rfl <;> first | (exact absurd hu (by decide)) | decide
    refine stepAt h hk (by lia) (.aChar (by rw [ws_of hk]; simpa using e.1) (by rw [quo_of hk]; simp [e.2.1, e.2.2])) ?_
    refine wordRun xs (i + 1) l (tk ++ S1 k) q h.cons.2.2 (fun j hj => hx j (.tail _ hj)) (by rw [app_len]; lia) ?_
    rw [mk_cons, Nat.add_assoc, Nat.add_comm 1]
    exact r
theorem quotRun : ∀ (xs : List Nat) (i : Nat) (l : List Nat) (tk : PySem.Str) (q : Bool), At_ z i (xs.flatMap encN ++ 39 :: l) → (∀ k ∈ xs, k ∈ alph) → tk.length + xs.length ≤ 100000 → TokR z (i + (xs.flatMap encN).length + 1) "a" (tk ++ mkS xs) true sf t q' i' → TokR z i "'" tk q sf t q' i'
  | [], i, l, tk, q, h, _, ht, r => by
    have h39 : (39 : Nat) ∈ alph := by decide
    rw [app_nil] at r
    have e : ("'" : PySem.Str) = S1 39 := quot_eq
    rw [e]
    refine stepAt (k := 39) (l := l) h h39 (by lia) (.qClose (by rw [quo_of h39]; rfl) (by rw [sp_eq, S1_beq]; rfl)) ?_
    exact r
  | k :: xs, i, l, tk, q, h, hx, ht, r => by
    have hk := hx k (.head _)
    have hx' : ∀ j ∈ xs, j ∈ alph := fun j hj => hx j (.tail _ hj)
    have h39 : (39 : Nat) ∈ alph := by decide
    have h34 : (34 : Nat) ∈ alph := by decide
    have e : ("'" : PySem.Str) = S1 39 := quot_eq
    rw [List.length_cons] at ht
    rw [List.flatMap_cons] at h r
    by_cases h9 : k = 39
    · subst h9
      have ee : encN 39 = [39, 34, 39, 34, 39] := rfl
      rw [ee] at h r
      have a1 := h.cons.2.2
      have a2 := a1.cons.2.2
      have a3 := a2.cons.2.2
      have a4 := a3.cons.2.2
      have a5 := a4.cons.2.2
      rw [e]
      refine stepAt h h39 (by lia) (.qClose (by rw [quo_of h39]; rfl) (by rw [sp_eq, S1_beq]; rfl)) ?_
      refine stepAt a1 h34 (by lia) (.aQuote (by rw [ws_of h34]; rfl) (by rw [quo_of h34]; rfl)) ?_
      refine stepAt a2 h39 (by lia) (.qIn (by rw [quo_of h34]; rfl) (by rw [sp_eq, S1_beq]; rfl) (by rw [S1_beq]; rfl)) ?_
      refine stepAt a3 h34 (by rw [app_len]; lia) (.qClose (by rw [quo_of h34]; rfl) (by rw [sp_eq, S1_beq]; rfl)) ?_
      refine stepAt a4 h39 (by rw [app_len]; lia) (.aQuote (by rw [ws_of h39]; rfl) (by rw [quo_of h39]; rfl)) ?_
      rw [← e]
      refine quotRun xs (i + 1 + 1 + 1 + 1 + 1) l (tk ++ S1 39) true a5 hx' (by rw [app_len]; lia) ?_
      rw [mk_cons]
      rw [List.length_append] at r
      have en : i + (([39, 34, 39, 34, 39] : List Nat).length + (xs.flatMap encN).length) + 1 = i + 1 + 1 + 1 + 1 + 1 + (xs.flatMap encN).length + 1 := by simp; lia
      rw [en] at r
      exact r
    · rw [encN_free h9] at h r
      refine stepAt h hk (by lia) (.qIn (by rw [e, quo_of h39]; rfl) (by rw [e, sp_eq, S1_beq]; rfl) (by rw [e, S1_beq]; simpa using h9)) ?_
      refine quotRun xs (i + 1) l (tk ++ S1 k) true h.cons.2.2 hx' (by rw [app_len]; lia) ?_
      rw [mk_cons]
      rw [List.length_append] at r
      have en : i + (([k] : List Nat).length + (xs.flatMap encN).length) + 1 = i + 1 + (xs.flatMap encN).length + 1 := by simp; lia
      rw [en] at r
      exact r
theorem empty_list (xs : List Nat) : ("" : PySem.Str) ++ mkS xs = mkS xs := by rw [empty_eq]; apply ext_list; rw [app_list]; rfl
noncomputable def qOf (xs : List Nat) : Bool := !(xs.all fun k => !unsafeC k)
theorem tokOne {xs : List Nat} {i : Nat} {l : List Nat} (h : At_ z i (qN xs ++ l)) (hx : ∀ k ∈ xs, k ∈ alph) (hne : xs ≠ []) (hl : xs.length ≤ 1000) (r : TokR z (i + (qN xs).length) "a" (mkS xs) (qOf xs) sf t q' i') : TokR z i " " "" false sf t q' i' := by
  have he : ("" : PySem.Str).length = 0 := by decide
  unfold qN qOf at r
  unfold qN at h
  split at h
  · rename_i hs
    rw [if_pos hs, hs] at r
    rw [List.all_eq_true] at hs
    cases xs with
    | nil => exact absurd rfl hne
    | cons k xs =>
      have hk := hx k (.head _)
      have hu : unsafeC k = false := by have := hs k (.head _); simpa using this
      have e : k ≠ 32 ∧ k ≠ 39 ∧ k ≠ 34 := by
        simp only [Mine.alph, List.mem_cons, List.not_mem_nil, or_false] at hk
        rcases hk with rfl | rfl | rfl | rfl | rfl | rfl | rfl <;> first | (exact absurd hu (by decide)) | decide
      have hgo : TokR z (i + 1) "a" (S1 k) false sf t q' i' := by
        refine wordRun xs (i + 1) l (S1 k) false h.cons.2.2 (fun j hj => ⟨hx j (.tail _ hj), by have := hs j (.tail _ hj); simpa using this⟩) (by
          show 1 + xs.length ≤ 100000
          rw [List.length_cons] at hl; lia) ?_
        have e1 : S1 k ++ mkS xs = mkS (k :: xs) := by apply ext_list; rw [app_list]; rfl
        rw [e1]
        have := r
        rw [List.length_cons] at this
        rw [Nat.add_assoc, Nat.add_comm 1]
        exact this
      have hws : Txt.contains " \t\r\n" (S1 k) = false := by rw [ws_of hk]; simpa using e.1
      by_cases hw : (k == 97 || k == 98) = true
      · exact stepAt h hk (by lia) (.sWord hws (by rw [word_of hk]; exact hw)) hgo
      · exact stepAt h hk (by lia) (.sOther hws (by rw [word_of hk]; simpa using hw) (by rw [quo_of hk]; simp [e.2.1, e.2.2])) hgo
  · rename_i hs
    rw [if_neg hs, Bool.eq_false_iff.mpr hs] at r
    have h39 : (39 : Nat) ∈ alph := by decide
    have ea : 39 :: (xs.flatMap encN ++ [39]) ++ l = 39 :: (xs.flatMap encN ++ 39 :: l) := by simp
    rw [ea] at h
    refine stepAt h h39 (by lia) (.sQuote (by rw [ws_of h39]; rfl) (by rw [word_of h39]; rfl) (by rw [quo_of h39]; rfl)) ?_
    have e : ("'" : PySem.Str) = S1 39 := quot_eq
    rw [← e]
    refine quotRun xs (i + 1) l "" false h.cons.2.2 hx (by lia) ?_
    rw [empty_list]
    have := r
    rw [List.length_cons, List.length_append] at this
    have en : i + ((xs.flatMap encN).length + [39].length + 1) = i + 1 + (xs.flatMap encN).length + 1 := by simp; lia
    rw [en] at this
    exact this
end
theorem mkS_ne {xs : List Nat} (h : xs ≠ []) : (mkS xs).length ≠ 0 := by
  show xs.toArray.size ≠ 0
  rw [List.size_toArray]
  exact fun e => h (List.eq_nil_of_length_eq_zero e)
theorem toksAll (z : PySem.Str) : ∀ (xss : List (List Nat)) (xs : List Nat) (i : Nat), At_ z i (qN xs ++ xss.flatMap fun ys => 32 :: qN ys) → (∀ ys ∈ xs :: xss, (∀ k ∈ ys, k ∈ alph) ∧ ys ≠ [] ∧ ys.length ≤ 1000) → ToksR z i (.str " ") ((xs :: xss).map mkS)
  | [], xs, i, h, hx => by
    obtain ⟨h1, h2, h3⟩ := hx xs (.head _)
    have hz : At_ z (i + (qN xs).length) [] := by
      show z.cps.toList.drop (i + (qN xs).length) = []
      have h0 : z.cps.toList.drop i = qN xs ++ [] := h
      rw [← List.drop_drop, h0, List.append_nil, List.drop_length]
    exact .tok (tokOne h h1 h2 h3 (.eof hz.nil)) (.inl (mkS_ne h2)) (.done hz.nil)
  | ys :: xss, xs, i, h, hx => by
    obtain ⟨h1, h2, h3⟩ := hx xs (.head _)
    rw [List.flatMap_cons] at h
    have hz : At_ z (i + (qN xs).length) (32 :: (qN ys ++ xss.flatMap fun ys => 32 :: qN ys)) := by
      show z.cps.toList.drop (i + (qN xs).length) = _
      have h0 : z.cps.toList.drop i = qN xs ++ (32 :: qN ys ++ xss.flatMap fun ys => 32 :: qN ys) := h
      rw [← List.drop_drop, h0, List.drop_append_of_le_length (Nat.le_refl _), List.drop_length]
      rfl
    have h32 : (32 : Nat) ∈ alph := by decide
    obtain ⟨k1, k2, k3⟩ := hz.cons
    have hlen : (mkS xs).length ≤ 100000 := by show xs.toArray.size ≤ _; rw [List.size_toArray]; lia
    refine .tok (tokOne h h1 h2 h3 (.ws k1 (k2 ▸ sign_ok h32) (by rw [k2, ws_of h32]; rfl) hlen (.inl (mkS_ne h2)))) (.inl (mkS_ne h2)) ?_
    exact toksAll z xss ys _ k3 fun ys' hy => hx ys' (.tail _ hy)
end

section
open PySem PySem.W PyProof.Rows PySem.Calls PyProof.V
set_option maxHeartbeats 1000000
theorem sides_all (i : Nat) (h : i < 6) : ∃ a b : Nat, a ≠ b ∧ a ∈ [97, 98, 39, 32, 34, 35] ∧ b ∈ [97, 98, 39, 32, 34, 35] ∧ sidesP (i : Int) = ⟨#[a, b]⟩ :=
  have k : ∀ i : Nat, i < 6 → [97, 39, 98, 32, 34, 35].getD i 0 ≠ [39, 98, 32, 34, 35, 97].getD i 0 ∧ [97, 39, 98, 32, 34, 35].getD i 0 ∈ [97, 98, 39, 32, 34, 35] ∧ [39, 98, 32, 34, 35, 97].getD i 0 ∈ [97, 98, 39, 32, 34, 35] ∧ sidesP (i : Int) = ⟨#[[97, 39, 98, 32, 34, 35].getD i 0, [39, 98, 32, 34, 35, 97].getD i 0]⟩ := by decide +kernel
  ⟨_, _, k i h⟩
theorem sides_ok (i : Int) (h0 : 0 ≤ i) (h6 : i < 6) : ∃ c, Signs c ∧ (sidesP i).length = 2 ∧ Txt.item (sidesP i) 0 = S1 (c false) ∧ Txt.item (sidesP i) 1 = S1 (c true) := by
  obtain ⟨a, b, h1, h2, h3, e⟩ := sides_all i.toNat (by lia)
  rw [Int.toNat_of_nonneg h0] at e
  refine ⟨fun q => if q = true then b else a, ⟨by simpa using h1, fun q => by cases q <;> simp only [Bool.false_eq_true, if_false, if_true] <;> assumption⟩, by rw [e]; rfl, ?_, ?_⟩
  · rw [e]; rfl
  · rw [e]; rfl
section
variable {c : Bool → Nat}
theorem wish_nat (x : Int) : ∃ d : Nat, d ≤ 10 ∧ wishD x = d ∧ wishS x = 2 ^ (10 - d) := by
  obtain ⟨h1, h2, h3⟩ := wish_facts x
  refine ⟨10 - ((x.fmod 4096).fmod 11).toNat, by lia, ?_, ?_⟩
  · unfold wishD; lia
  · unfold wishS; congr 1; lia
theorem first_fit (d : Nat) : ∀ F : List Path, (∃ (k : Nat) (y : Path), F[k]? = some y ∧ y.length ≤ d ∧ ∀ j < k, ∀ z : Path, F[j]? = some z → d < z.length) ∨ ∀ y ∈ F, d < y.length
  | [] => .inr fun y hy => nomatch hy
  | a :: F => by
    by_cases h : a.length ≤ d
    · exact .inl ⟨0, a, rfl, h, fun j hj => absurd hj (by lia)⟩
    · rcases first_fit d F with ⟨k, y, h1, h2, h3⟩ | h1
      · refine .inl ⟨k + 1, y, h1, h2, fun j hj z hz => ?_⟩
        cases j with
        | zero => have : a = z := by simpa using hz
                  subst this; lia
        | succ j => exact h3 j (by lia) z hz
      · refine .inr fun y hy => ?_
        rcases List.mem_cons.mp hy with rfl | hy
        · lia
        · exact h1 y hy
theorem loop_place (h : Signs c) : ∀ (xs : List Int) (F G : List Path) (left : Nat), Inv F G left → left ≤ 1024 → G.length + xs.length ≤ 100 →
    ∃ F' G' left', LoopR (S1 (c false)) (S1 (c true)) xs (F.map (plS c)) left (G.map (plS c)) (F'.map (plS c)) (G'.map (plS c)) ∧ Inv F' G' left' ∧ G'.length ≤ G.length + xs.length ∧ left' ≤ left ∧ (xs ≠ [] → left' < 1024)
  | [], F, G, left, I, hl, hg => ⟨F, G, left, .nil, I, Nat.le_add_right _ _, Nat.le_refl _, fun e => absurd rfl e⟩
  | x :: xs, F, G, left, I, hl, hg => by
    obtain ⟨d, hd, e1, e2⟩ := wish_nat x
    have hnum := desc_short F 11 I.desc fun r hr => by have := I.le r hr; lia
    have hlen : ∀ y ∈ F.map (plS c), y.length ≤ 1000 := fun y hy => by
      obtain ⟨r, hr, rfl⟩ := List.mem_map.mp hy
      have := plS_le (c := c) r; have := I.le r hr; lia
    have hn : (F.map (plS c)).length ≤ 1000 := by rw [List.length_map]; lia
    rw [List.length_cons] at hg
    have hpos : 0 < 2 ^ (10 - d) := Nat.pow_pos (by lia)
    rcases first_fit d F with ⟨k, y, h1, h2, h3⟩ | h1
    · obtain ⟨hle, I'⟩ := I.give h1 h3 (m := d - y.length) (by lia) hd
      obtain ⟨F', G', left', hL, I'', hg', hle', hlt⟩ := loop_place h xs _ _ _ I' (by lia) (by rw [List.length_append, List.length_singleton]; lia)
      rw [List.length_append, List.length_singleton] at hg'
      have hfr : (F.take k ++ (growP y (d - y.length)).2 ++ F.drop (k + 1)).map (plS c) = (F.map (plS c)).take k ++ (growN (S1 (c false)) (S1 (c true)) (plS c y) (d - y.length)).2 ++ (F.map (plS c)).drop (k + 1) := by
        rw [grow_place h, List.map_append, List.map_append, List.map_take, List.map_drop]
      have hgv : (G ++ [(growP y (d - y.length)).1]).map (plS c) = G.map (plS c) ++ [(growN (S1 (c false)) (S1 (c true)) (plS c y) (d - y.length)).1] := by
        rw [grow_place h, List.map_append]; rfl
      have hF := flags_place h I' (by lia)
      rw [hfr, ← e2] at hF
      rw [hfr, hgv, ← e2] at hL
      refine ⟨F', G', left', .some hlen hn (k := k) (y := plS c y) (m := d - y.length) (by rw [List.getElem?_map, h1]; rfl) (fun j hj z hz => ?_) (by rw [e1, depth_place h]; lia) (by rw [e2]; exact hle) (by rw [List.length_map]; lia) hF hL, I'', by rw [List.length_cons]; lia, by lia, fun _ => by lia⟩
      · rw [List.getElem?_map] at hz
        cases hq : F[j]? with
        | none => rw [hq] at hz; cases hz
        | some r =>
          rw [hq] at hz
          cases hz
          rw [depth_place h, e1]
          have := h3 j hj r hq; lia
    · have hsm := I.small hd h1
      have hp10 : 2 ^ (10 - d) ≤ 2 ^ 10 := Nat.pow_le_pow_right (by lia) (by lia)
      obtain ⟨F', G', left', hL, I'', hg', hle', hlt⟩ := loop_place h xs F G left I hl (by lia)
      have hF := flags_place h I (by lia)
      refine ⟨F', G', left', .none hlen hn (fun y hy => ?_) (by rw [e2]; exact hsm) hF hL, I'', by rw [List.length_cons]; lia, by lia, fun _ => by lia⟩
      · obtain ⟨r, hr, rfl⟩ := List.mem_map.mp hy
        rw [depth_place h, e1]
        have := h1 r hr; lia
theorem other_place (h : Signs c) (b : Bool) (r : Path) : otherP (S1 (c false)) (S1 (c true)) (plS c (b :: r)) = plS c (sib (b :: r)) := by
  unfold otherP
  rw [dir_place h, base_place h, S1_beq]
  cases b
  · rw [beq_self_eq_true, if_pos rfl]; exact join_place h true r
  · have : ¬ (c true == c false) = true := by simpa using fun e => h.ne e.symm
    rw [if_neg this]; exact join_place h false r
theorem place_beq (h : Signs c) (a b : Path) : (plS c a == plS c b) = (a == b) := by
  rw [Bool.eq_iff_iff, beq_iff_eq, beq_iff_eq]
  exact ⟨plS_inj h, fun e => by rw [e]⟩
theorem any_place (h : Signs c) (s : Path) : ∀ F : List Path, (F.map (plS c)).any (· == plS c s) = F.any (· == s)
  | [] => rfl
  | a :: F => by rw [List.map_cons, List.any_cons, List.any_cons, any_place h s F, place_beq h]
theorem filter_place (h : Signs c) (s : Path) : ∀ F : List Path, (F.map (plS c)).filter (· != plS c s) = (F.filter (· != s)).map (plS c)
  | [] => rfl
  | a :: F => by
    have e : (plS c a != plS c s) = (a != s) := by unfold bne; rw [place_beq h]
    rw [List.map_cons, List.filter_cons, List.filter_cons, filter_place h s F, e]
    split <;> rfl
theorem root_place : plS c [] = "/" := slash_eq.symm
theorem back_place (h : Signs c) {F F' : List Path} {p : Path} (hb : BackQ F p F') (hF : F.length ≤ 500) (hp : p.length ≤ 10) : BackR (S1 (c false)) (S1 (c true)) (F.map (plS c)) (plS c p) (F'.map (plS c)) := by
  have hne : ∀ (b : Bool) (r : Path), (plS c (b :: r) != "/") = true := fun b r => by
    rw [← root_place (c := c)]
    unfold bne
    rw [place_beq h]; rfl
  induction hb with
  | @root F =>
    rw [List.map_append, root_place]
    show BackR _ _ _ _ (F.map (plS c) ++ [plS c []])
    rw [root_place]
    exact .root (by rw [List.length_map]; lia)
  | @alone F b r hn =>
    rw [List.map_append]
    refine .alone (by rw [List.length_map]; lia) (by have := plS_le (c := c) (b :: r); lia) (hne b r) ?_
    rw [other_place h, any_place h]
    rw [List.any_eq_false]
    intro q hq e
    exact hn (beq_iff_eq.mp e ▸ hq)
  | @merge F F' b r hm hb' ih =>
    rw [List.length_cons] at hp
    have hfl := List.length_filter_le (· != sib (b :: r)) F
    have ih' := ih (by lia) (by lia)
    refine .merge (by rw [List.length_map]; lia) (by have := plS_le (c := c) (b :: r); rw [List.length_cons] at this; lia) (hne b r) ?_ ?_
    · rw [other_place h, any_place h, List.any_eq_true]
      exact ⟨_, hm, beq_self_eq_true _⟩
    · rw [other_place h, filter_place h, dir_place h]
      exact ih'
theorem backL_place (h : Signs c) {F ps R : List Path} (hb : BackLQ F ps R) (hF : F.length + ps.length ≤ 500) (hp : ∀ p ∈ ps, p.length ≤ 10) : BackL (S1 (c false)) (S1 (c true)) (F.map (plS c)) (ps.map (plS c)) (R.map (plS c)) := by
  induction hb with
  | nil => exact .nil
  | cons h1 _ ih =>
    rw [List.length_cons] at hF
    have := h1.length
    exact .cons (back_place h h1 (by lia) (hp _ (.head _))) (ih (by lia) fun p hq => hp p (.tail _ hq))
theorem mkS_self (x : PySem.Str) : mkS x.cps.toList = x := by apply ext_list; rfl
end
theorem drawn_len (script : List Int) : (drawnP script).length ≤ 6 ∧ drawnP script ≠ [] := by
  have h : (drawnP script).length = min 6 script.length + (4 - script.length) := by
    unfold drawnP
    rw [List.length_append, List.length_take, List.length_drop]; rfl
  refine ⟨by lia, fun e => ?_⟩
  rw [e] at h
  simp at h; lia
theorem lawOk (script : List Int) : LawOk script := by
  obtain ⟨hd6, hdn⟩ := drawn_len script
  have s1 := Int.fmod_lt_of_pos (drawnP script).sum (b := 6) (by lia)
  have s2 := Int.fmod_nonneg_of_pos (drawnP script).sum (b := 6) (by lia)
  obtain ⟨c, h, hs, i0, i1⟩ := sides_ok _ s2 s1
  refine ⟨hs, ?_⟩
  rw [i0, i1]
  generalize drawnP script = dr at *
  obtain ⟨F, G, left, hL, I, hg, _, hlt⟩ := loop_place h dr [[]] [] 1024 inv0 (Nat.le_refl _) (by simp; lia)
  have hlt := hlt hdn
  have hGn : G ≠ [] := by
    rintro rfl
    have hb := (I.bak (ps := []) fun w => rfl).whole
    have := I.sum
    rw [hb] at this
    have e : szs [[]] = 1024 := rfl
    lia
  obtain ⟨_, o2, o3, _, o5⟩ := ordQ_facts (c := c) dr G G.length (Nat.le_refl _)
  obtain ⟨o1, _⟩ := ordQ_facts (c := c) dr G G.length (Nat.le_refl _)
  have hlG : (G.map (plS c)).length = G.length := List.length_map _
  have hG6 : G.length ≤ 6 := by simp at hg; lia
  have hO : (ordS dr (G.map (plS c)) (G.map (plS c)).length).1 = (ordQ dr G G.length).1.map (plS c) := by rw [hlG, o5]
  have hO2 : (ordQ dr G G.length).2 = [] := List.eq_nil_of_length_eq_zero (by rw [o1]; lia)
  have hOl : ((ordQ dr G G.length).1.map (plS c)).length = G.length := by
    rw [← hO]; exact hlG ▸ (ordS_len dr (G.map (plS c)) _ (Nat.le_refl _)).1
  have hOle : ∀ p ∈ (ordQ dr G G.length).1, p.length ≤ 10 := fun p hp => I.leG p (o3 p hp)
  have hOtot : ∀ w, tot w (ordQ dr G G.length).1 = tot w G := fun w => by have := o2 w; rw [hO2, tot_nil] at this; lia
  have hFl := desc_short F 11 I.desc fun r hr => by have := I.le r hr; lia
  generalize (ordQ dr G G.length).1 = O at *
  have hOn : O ≠ [] := by
    rintro rfl
    rw [List.map_nil, List.length_nil] at hOl
    exact hGn (List.eq_nil_of_length_eq_zero hOl.symm)
  rw [List.length_map] at hOl
  have hql : ∀ x ∈ (O.map (plS c)).map quoteP, x.length ≤ 107 := by
    intro x hx
    obtain ⟨y, hy, rfl⟩ := List.mem_map.mp hx
    obtain ⟨p, hp, rfl⟩ := List.mem_map.mp hy
    rw [len_list, quote_list]
    have h1 := qN_len (plS c p).cps.toList
    have h2 := plS_le (c := c) p
    have h3 := hOle p hp
    rw [← len_list] at h1
    lia
  have hsp : (" " : PySem.Str).length = 1 := by decide
  have hqs := sum_le_of hql
  have hqn : ((O.map (plS c)).map quoteP).length = O.length := by rw [List.length_map, List.length_map]
  have hjl := txtJoin_le " " ((O.map (plS c)).map quoteP)
  rw [hsp, hqn] at hjl
  rw [hqn] at hqs
  refine ⟨F.map (plS c), G.map (plS c), ?_, ?_, ?_, ?_, ?_, ?_, ?_, ?_⟩
  · rw [← root_place (c := c)]; exact hL
  · rw [hlG]; simp at hg; exact hg
  · intro i j x y hij hx hy
    rw [List.getElem?_map] at hx hy
    cases hpi : G[i]? with
    | none => rw [hpi] at hx; cases hx
    | some p =>
      cases hpj : G[j]? with
      | none => rw [hpj] at hy; cases hy
      | some q =>
        rw [hpi] at hx; rw [hpj] at hy
        cases hx; cases hy
        obtain ⟨a1, a2⟩ := I.apart hij hpi hpj
        exact apart_place h (I.leG p (List.mem_of_getElem? hpi)) (I.leG q (List.mem_of_getElem? hpj)) a1 a2
  · rw [hO]
    intro x hx
    obtain ⟨p, hp, rfl⟩ := List.mem_map.mp hx
    have h2 := plS_le (c := c) p
    have h3 := hOle p hp
    refine ⟨plS_pos p, by lia, fun k hk => plS_alph h p k (Array.mem_toList_iff.mpr hk), ?_⟩
    rw [len_list, repl_list]
    have := enc_len (plS c p).cps.toList
    rw [← len_list] at this
    lia
  · rw [hO]; lia
  · rw [hO, hsp, hqn]; lia
  · rw [hO]
    cases O with
    | nil => exact absurd rfl hOn
    | cons p ps =>
      have hz : (Txt.join " " (((p :: ps).map (plS c)).map quoteP)).cps.toList = qN (plS c p).cps.toList ++ (ps.map fun q => (plS c q).cps.toList).flatMap fun ys => 32 :: qN ys := by
        rw [txtJoin, sp_eq]
        show (PySem.Str.join ⟨#[32]⟩ (quoteP (plS c p) :: (ps.map (plS c)).map quoteP)).cps.toList = _
        rw [joinCons, quote_list, List.map_map, List.flatMap_map, List.flatMap_map]
        simp only [Function.comp_apply, quote_list]
      have := toksAll (Txt.join " " (((p :: ps).map (plS c)).map quoteP)) (ps.map fun q => (plS c q).cps.toList) (plS c p).cps.toList 0 hz (fun ys hy => by
        have hy : ys ∈ (p :: ps).map fun q => (plS c q).cps.toList := hy
        obtain ⟨q, hq, rfl⟩ := List.mem_map.mp hy
        have h2 := plS_le (c := c) q
        have h3 := hOle q hq
        have h4 := plS_pos (c := c) q
        rw [len_list] at h2 h4
        exact ⟨plS_alph h q, fun e => by rw [e] at h4; simp at h4, by lia⟩)
      have e : ((plS c p).cps.toList :: ps.map fun q => (plS c q).cps.toList).map mkS = (p :: ps).map (plS c) := by
        show ((p :: ps).map fun q => (plS c q).cps.toList).map mkS = _
        rw [List.map_map]
        exact List.map_congr_left fun q _ => mkS_self _
      rw [e] at this
      exact this
  · rw [hO]
    have hb := backL_place h (backAll O F hOle (I.bak hOtot)) (by lia) hOle
    have e : ([[]] : List Path).map (plS c) = [("/" : PySem.Str)] := by rw [List.map_cons, List.map_nil, root_place]
    rw [e] at hb
    exact hb
end

section
open PySem PySem.W PyProof.Rows PySem.Calls
-- names that the head's look would take for twins of its own constants: without the twins it is smaller and faster
theorem top.tw17586783052614405119 : True := trivial
theorem top.tw3548060758652744671 : True := trivial
theorem top.tw965346924571166687 : True := trivial
theorem top.tw7436774141650363327 : True := trivial
theorem top.tw5839659824258004927 : True := trivial
theorem top.tw3207569582813703071 : True := trivial
theorem top.tw2965125352208521119 : True := trivial
theorem top.tw9682687983338836895 : True := trivial
theorem top.tw8628236747792435071 : True := trivial
theorem top.tw10399464001100048223 : True := trivial
theorem top.tw8163011886388404031 : True := trivial
theorem top.tw12543184057631004479 : True := trivial
theorem top.tw13369591340354186047 : True := trivial
theorem top.tw15966430410579761919 : True := trivial
theorem top.tw8170299122808406783 : True := trivial
theorem top.tw649594095290182367 : True := trivial
theorem top.tw8345894832289464959 : True := trivial
theorem top.tw453181688931711583 : True := trivial
theorem top.tw13188079976727067231 : True := trivial
theorem top.tw12094960947251128927 : True := trivial
theorem top.tw12762922103008790111 : True := trivial
theorem top.tw13167462122316868159 : True := trivial
theorem top.tw6448850889433096767 : True := trivial
theorem top.tw2514443458684651071 : True := trivial
theorem top.tw7702549930194098719 : True := trivial
theorem top.tw13709580248569299487 : True := trivial
theorem top.tw5766051744304087583 : True := trivial
theorem top.tw14762295962024373759 : True := trivial
theorem top.tw17431308487043992063 : True := trivial
theorem top.tw9589608677651300831 : True := trivial
theorem top.tw314455870634268127 : True := trivial
theorem top.tw11279390925490393535 : True := trivial
theorem top.tw15516308363225789855 : True := trivial
theorem top.tw11584198869435930015 : True := trivial
theorem top.tw378458367893578143 : True := trivial
theorem top.tw9456006794991739263 : True := trivial
theorem top.tw3430127420881650015 : True := trivial
theorem top.tw4885547446624616799 : True := trivial
theorem top.tw2502181453436431679 : True := trivial
theorem top.tw13852830345959847167 : True := trivial
theorem top.tw10341860258655708415 : True := trivial
theorem top.tw14771320824794740959 : True := trivial
theorem top.tw2464713573024523455 : True := trivial
theorem top.tw10101883924317870271 : True := trivial
theorem top.tw6187478851450931391 : True := trivial
theorem top.tw5072613934562372735 : True := trivial
theorem top.tw11173010173815179391 : True := trivial
theorem top.tw17494340499879156831 : True := trivial
theorem top.tw7990429038631628895 : True := trivial
theorem top.tw15277652076535365695 : True := trivial
theorem top.tw1754339480302792767 : True := trivial
theorem top.tw5738303106652476479 : True := trivial
theorem top.tw17434308400759680031 : True := trivial
theorem top.tw14390669486469195807 : True := trivial
theorem top.tw14371913498598963198 : True := trivial
theorem top.tw2267912224990424062 : True := trivial
theorem top.tw15058813355848621054 : True := trivial
theorem top.tw5983031951866500094 : True := trivial
theorem top.tw2867133514656366558 : True := trivial
theorem top.tw5444345374180229054 : True := trivial
theorem top.tw5969987386201385886 : True := trivial
theorem top.tw16753658254399821694 : True := trivial
theorem top.tw13889484949932952446 : True := trivial
theorem top.tw8374938949443298174 : True := trivial
theorem top.tw13977891211089843070 : True := trivial
theorem top.tw16085473023203611486 : True := trivial
theorem top.tw105208000716104510 : True := trivial
theorem top.tw17783859843131274014 : True := trivial
theorem top.tw8455645898260960030 : True := trivial
theorem top.tw12322150652039217950 : True := trivial
theorem top.tw16656781636731879198 : True := trivial
theorem top.tw17258124492514966302 : True := trivial
theorem top.tw9075757514644619006 : True := trivial
theorem top.tw5764397981948056254 : True := trivial
theorem top.tw3486219094355674750 : True := trivial
theorem top.tw5118827330378232414 : True := trivial
theorem top.tw788273225186049534 : True := trivial
theorem top.tw7358114872323791358 : True := trivial
theorem top.tw10956490626425055710 : True := trivial
theorem top.tw6859976401760118174 : True := trivial
theorem top.tw2878843996050045342 : True := trivial
theorem top.tw9108098604805947806 : True := trivial
theorem top.tw10579768621468169598 : True := trivial
theorem top.tw4046864289407762814 : True := trivial
theorem top.tw18344159896984962366 : True := trivial
theorem top.tw12904532413392791838 : True := trivial
theorem top.tw6933892841690572062 : True := trivial
theorem top.tw9989051494896439582 : True := trivial
theorem top.tw6930518751129746686 : True := trivial
theorem top.tw8968299171318014206 : True := trivial
theorem top.tw5850499497852442878 : True := trivial
theorem top.tw14747140909534839006 : True := trivial
theorem top.tw17958866498819703998 : True := trivial
theorem top.tw16345600495311464638 : True := trivial
theorem top.tw14851680436948445374 : True := trivial
theorem top.tw6619077023068780702 : True := trivial
theorem top.tw9908739903337578654 : True := trivial
theorem top.tw8973803690348224638 : True := trivial
theorem top.tw13091174067606910046 : True := trivial
theorem top.tw18237780215024852062 : True := trivial
theorem top.tw4758991174889311326 : True := trivial
theorem top.tw14901070454687303710 : True := trivial
theorem top.tw47109162367338493 : True := trivial
theorem top.tw10239475785048107997 : True := trivial
theorem top.tw1833847959688406909 : True := trivial
theorem top.tw18121752080927795069 : True := trivial
theorem top.tw11423202765487971197 : True := trivial
theorem top.tw12609604535291364189 : True := trivial
theorem top.tw17683472795295644477 : True := trivial
theorem top.tw3730354652608582461 : True := trivial
theorem top.tw8716659796364181309 : True := trivial
theorem top.tw18177719399980262173 : True := trivial
theorem top.tw18392722231026035453 : True := trivial
theorem top.tw2479311146797828861 : True := trivial
theorem top.tw11430207588045935325 : True := trivial
theorem top.tw16155163154822807229 : True := trivial
theorem top.tw1841203439943692989 : True := trivial
theorem top.tw7325726471975496349 : True := trivial
theorem top.tw10773188271377071773 : True := trivial
theorem top.tw2248615004971204189 : True := trivial
theorem top.tw9635256975759824477 : True := trivial
theorem top.tw16533540343700365917 : True := trivial
theorem top.tw12216630987165489725 : True := trivial
theorem top.tw13899568491130100285 : True := trivial
theorem top.tw13820912127525551613 : True := trivial
theorem top.tw17355269125676882429 : True := trivial
theorem top.tw5692499903750754813 : True := trivial
theorem top.tw1536312445118062077 : True := trivial
theorem top.tw668136137496459709 : True := trivial
theorem top.tw6287420888163001789 : True := trivial
theorem top.tw2782073688633401757 : True := trivial
theorem top.tw1805163160381243805 : True := trivial
theorem top.tw7669972870368051581 : True := trivial
theorem top.tw14308104382005812605 : True := trivial
theorem top.tw12932905502366258525 : True := trivial
theorem top.tw8150499350492408157 : True := trivial
theorem top.tw6594526768476950845 : True := trivial
theorem top.tw12488038555639769405 : True := trivial
theorem top.tw13762209637798829341 : True := trivial
theorem top.tw7475746777092488413 : True := trivial
theorem top.tw9435149272193770685 : True := trivial
theorem top.tw6733462575251390621 : True := trivial
theorem top.tw1186331607622873149 : True := trivial
theorem top.tw6185767955086497853 : True := trivial
theorem top.tw11240886729373846589 : True := trivial
theorem top.tw568400683779154973 : True := trivial
theorem top.tw956089473029861405 : True := trivial
theorem top.tw4547018644641229820 : True := trivial
theorem top.tw5184316447030610940 : True := trivial
theorem top.tw3776753064480771068 : True := trivial
theorem top.tw6754034310392073148 : True := trivial
theorem top.tw10350142207108426684 : True := trivial
theorem top.tw18034075008235765660 : True := trivial
theorem top.tw1124271682379634556 : True := trivial
theorem top.tw14786789198576647004 : True := trivial
theorem top.tw12734148187753135964 : True := trivial
theorem top.tw3260854985940988732 : True := trivial
theorem top.tw14029182922437419836 : True := trivial
theorem top.tw16007503158450755388 : True := trivial
theorem top.tw13478431904813821724 : True := trivial
theorem top.tw2446586112883488508 : True := trivial
theorem top.tw4250950275838387964 : True := trivial
theorem top.tw5158987858606641884 : True := trivial
theorem top.tw15361541807878343388 : True := trivial
theorem top.tw1088946173253831356 : True := trivial
theorem top.tw216529984938456764 : True := trivial
theorem top.tw8243169916365450940 : True := trivial
theorem top.tw16453443671601555132 : True := trivial
theorem top.tw8260818223659903644 : True := trivial
theorem top.tw13890846271309207196 : True := trivial
theorem top.tw4807692442873511580 : True := trivial
theorem top.tw17336350906216195740 : True := trivial
theorem top.tw2727672472851901052 : True := trivial
theorem top.tw10195997230039290492 : True := trivial
theorem top.tw14917401599646851644 : True := trivial
theorem top.tw4321519831107876412 : True := trivial
theorem top.tw13802547742096326172 : True := trivial
theorem top.tw12376051458212225564 : True := trivial
theorem top.tw15873491276070852124 : True := trivial
theorem top.tw1869187583165140508 : True := trivial
theorem top.tw8814567910327776732 : True := trivial
theorem top.tw18200808041648558556 : True := trivial
theorem top.tw11577829705659331004 : True := trivial
theorem top.tw2879243146029554076 : True := trivial
theorem top.tw3392894077380570524 : True := trivial
theorem top.tw13928562000808390012 : True := trivial
theorem top.tw4269943819458244956 : True := trivial
theorem top.tw17709558473723601244 : True := trivial
theorem top.tw1007256952997204316 : True := trivial
theorem top.tw14114763150826241340 : True := trivial
theorem top.tw14826035006057030972 : True := trivial
theorem top.tw11593399256984752444 : True := trivial
theorem top.tw2377541652452675900 : True := trivial
theorem top.tw3423177367516475676 : True := trivial
theorem top.tw15286249088069653756 : True := trivial
theorem top.tw3693589069460492540 : True := trivial
theorem top.tw18245740138792012028 : True := trivial
theorem top.tw6912233166142098652 : True := trivial
theorem top.tw5523086135645875356 : True := trivial
theorem top.tw3465488137227279516 : True := trivial
theorem top.tw11334415319851112604 : True := trivial
theorem top.tw13134186033006778460 : True := trivial
theorem top.tw15996449679401966620 : True := trivial
theorem top.tw1169771345039838236 : True := trivial
theorem top.tw1891892759243069468 : True := trivial
theorem top.tw13120753694373217308 : True := trivial
theorem top.tw14992566070710894587 : True := trivial
theorem top.tw12520176845478516731 : True := trivial
theorem top.tw1192657577511650299 : True := trivial
theorem top.tw16759193500350966715 : True := trivial
theorem top.tw9152664641465651067 : True := trivial
theorem top.tw13460472456944749435 : True := trivial
theorem top.tw11131206648525784891 : True := trivial
theorem top.tw11858546649754279707 : True := trivial
theorem top.tw17176153746220573435 : True := trivial
theorem top.tw7059692629156357883 : True := trivial
theorem top.tw14456272776232333019 : True := trivial
theorem top.tw3337584539547039419 : True := trivial
theorem top.tw1368107221856924347 : True := trivial
theorem top.tw16821654228018055803 : True := trivial
theorem top.tw16800595933775061595 : True := trivial
theorem top.tw3422688185749166683 : True := trivial
theorem top.tw4134505453457115739 : True := trivial
theorem top.tw15911569825323301435 : True := trivial
theorem top.tw15755962551988530747 : True := trivial
theorem top.tw5970215366352900667 : True := trivial
theorem top.tw11726560247610144283 : True := trivial
theorem top.tw12157284967251751451 : True := trivial
theorem top.tw5922324665105752571 : True := trivial
theorem top.tw10017263926548143515 : True := trivial
theorem top.tw4566856676736034171 : True := trivial
theorem top.tw16896751376397280635 : True := trivial
theorem top.tw4250876409542091131 : True := trivial
theorem top.tw1353657120722975067 : True := trivial
theorem top.tw995497684801637723 : True := trivial
theorem top.tw17301418000779511131 : True := trivial
theorem top.tw17981982808018919739 : True := trivial
theorem top.tw16836452506482946331 : True := trivial
theorem top.tw17089494485692210459 : True := trivial
theorem top.tw12559286593441436923 : True := trivial
theorem top.tw4002441696211005659 : True := trivial
theorem top.tw7892811243723596987 : True := trivial
theorem top.tw14983691940233647259 : True := trivial
theorem top.tw4773702212245658779 : True := trivial
theorem top.tw18415971267559613563 : True := trivial
theorem top.tw6699709698940308603 : True := trivial
theorem top.tw10187264123177260123 : True := trivial
theorem top.tw427269002284569659 : True := trivial
theorem top.tw13068111086705522682 : True := trivial
theorem top.tw99440450732166138 : True := trivial
theorem top.tw2675166985342186458 : True := trivial
theorem top.tw17566744294597663674 : True := trivial
theorem top.tw4713442408853163898 : True := trivial
theorem top.tw1886144042066472794 : True := trivial
theorem top.tw12379415707883124570 : True := trivial
theorem top.tw5257204670187779898 : True := trivial
theorem top.tw17219337458794519322 : True := trivial
theorem top.tw14885488134526808858 : True := trivial
theorem top.tw17069463140951725850 : True := trivial
theorem top.tw12105128591322288922 : True := trivial
theorem top.tw6075534854705499898 : True := trivial
theorem top.tw3143785405151724282 : True := trivial
theorem top.tw16420938139371093754 : True := trivial
theorem top.tw7215319984434753242 : True := trivial
theorem top.tw5702910450625016506 : True := trivial
theorem top.tw10885322118463539834 : True := trivial
theorem top.tw2341375176344054394 : True := trivial
theorem top.tw5105846836358774362 : True := trivial
theorem top.tw8912170899635468890 : True := trivial
theorem top.tw1108800333578037850 : True := trivial
theorem top.tw17807222030613408314 : True := trivial
theorem top.tw6345181382737326586 : True := trivial
theorem top.tw1107088416671253978 : True := trivial
theorem top.tw3949973439248644570 : True := trivial
theorem top.tw2047080938173012442 : True := trivial
theorem top.tw9673933992889287130 : True := trivial
theorem top.tw411662067469150650 : True := trivial
theorem top.tw11961350612320602522 : True := trivial
theorem top.tw16307090917165222298 : True := trivial
theorem top.tw3512812017678644602 : True := trivial
theorem top.tw3195522803047326042 : True := trivial
theorem top.tw14823308797102314842 : True := trivial
theorem top.tw17366924284538989914 : True := trivial
theorem top.tw1047907039808853306 : True := trivial
theorem top.tw10079171474624433434 : True := trivial
theorem top.tw14277827659066580250 : True := trivial
theorem top.tw17620759639134147866 : True := trivial
theorem top.tw2411195145006440666 : True := trivial
theorem top.tw7681529838311687354 : True := trivial
theorem top.tw13525443076416275642 : True := trivial
theorem top.tw4827538265410502810 : True := trivial
theorem top.tw2307138979858485370 : True := trivial
theorem top.tw6973401727384321114 : True := trivial
theorem top.tw16526113553464788058 : True := trivial
theorem top.tw9743097575036673082 : True := trivial
theorem top.tw11199532085631943738 : True := trivial
theorem top.tw5176459694589498394 : True := trivial
theorem top.tw8531415777343470585 : True := trivial
theorem top.tw17395277212465857529 : True := trivial
theorem top.tw1147548669246485465 : True := trivial
theorem top.tw13924184270061799385 : True := trivial
theorem top.tw1304757597395314617 : True := trivial
theorem top.tw17699833187948243897 : True := trivial
theorem top.tw5071412327939943321 : True := trivial
theorem top.tw16196420915677631385 : True := trivial
theorem top.tw16128028805679967097 : True := trivial
theorem top.tw6659320528611288953 : True := trivial
theorem top.tw1670607248958778201 : True := trivial
theorem top.tw16325430554902658873 : True := trivial
theorem top.tw3901323768455840569 : True := trivial
theorem top.tw9178861053002065721 : True := trivial
theorem top.tw11466170419677230873 : True := trivial
theorem top.tw10180943152330463961 : True := trivial
theorem top.tw17735899436944072409 : True := trivial
theorem top.tw795583310449317561 : True := trivial
theorem top.tw3874152929960365753 : True := trivial
theorem top.tw6189502492464219833 : True := trivial
theorem top.tw8620165645458168473 : True := trivial
theorem top.tw18394268562011335289 : True := trivial
theorem top.tw14349089067433371257 : True := trivial
theorem top.tw17741875731164886585 : True := trivial
theorem top.tw8327351992414209593 : True := trivial
theorem top.tw302023382947574297 : True := trivial
theorem top.tw9851269098105209369 : True := trivial
theorem top.tw15799541711010589177 : True := trivial
theorem top.tw5365650347091420665 : True := trivial
theorem top.tw1551491737661789689 : True := trivial
theorem top.tw5251713544086459897 : True := trivial
theorem top.tw13385996262653078937 : True := trivial
theorem top.tw3605147657684821369 : True := trivial
theorem top.tw2387695369934537081 : True := trivial
theorem top.tw17253974145678602553 : True := trivial
theorem top.tw13576654369662418201 : True := trivial
theorem top.tw12263070956244924665 : True := trivial
theorem top.tw11072019736110318841 : True := trivial
theorem top.tw16352725718246490361 : True := trivial
theorem top.tw13359135706311490777 : True := trivial
theorem top.tw10001883323181062329 : True := trivial
theorem top.tw4695670854781333657 : True := trivial
theorem top.tw2596539476470345881 : True := trivial
theorem top.tw17030962893124633753 : True := trivial
theorem top.tw8235891563360409721 : True := trivial
theorem top.tw9038659593494541401 : True := trivial
theorem top.tw16273406610938067001 : True := trivial
theorem top.tw6908635100366463001 : True := trivial
theorem top.tw5889316905344633881 : True := trivial
theorem top.tw5790966258338625528 : True := trivial
theorem top.tw15245507539482535896 : True := trivial
theorem top.tw6583040956863952856 : True := trivial
theorem top.tw2722852734226103192 : True := trivial
theorem top.tw17886615442053742456 : True := trivial
theorem top.tw9516688046558066552 : True := trivial
theorem top.tw9750584392499151704 : True := trivial
theorem top.tw2975709217455756120 : True := trivial
theorem top.tw8144448655795402552 : True := trivial
theorem top.tw10232109247036878648 : True := trivial
theorem top.tw13128134590637569816 : True := trivial
theorem top.tw3995942328266245912 : True := trivial
theorem top.tw6572447435987645144 : True := trivial
theorem top.tw2617181576586992344 : True := trivial
theorem top.tw16713831800681072344 : True := trivial
theorem top.tw1592229195962567352 : True := trivial
theorem top.tw6746510453823603384 : True := trivial
theorem top.tw18164388396756303480 : True := trivial
theorem top.tw8237333600419904120 : True := trivial
theorem top.tw8810280945414196856 : True := trivial
theorem top.tw2617719716777270872 : True := trivial
theorem top.tw8599977235414819352 : True := trivial
theorem top.tw8107780213005350392 : True := trivial
theorem top.tw9768079942903668216 : True := trivial
theorem top.tw8500458220134822360 : True := trivial
theorem top.tw13500427573557490136 : True := trivial
theorem top.tw6211089042160764376 : True := trivial
theorem top.tw4551080515912023512 : True := trivial
theorem top.tw12783364522390391256 : True := trivial
theorem top.tw4498253355057717688 : True := trivial
theorem top.tw18326957874037197240 : True := trivial
theorem top.tw16262243036561855896 : True := trivial
theorem top.tw7158002623345892728 : True := trivial
theorem top.tw2812155379371279736 : True := trivial
theorem top.tw12725264436868645240 : True := trivial
theorem top.tw16166457384891526456 : True := trivial
theorem top.tw9063741608606530840 : True := trivial
theorem top.tw3347922821702440152 : True := trivial
theorem top.tw6487610083215253720 : True := trivial
theorem top.tw6623532728838073528 : True := trivial
theorem top.tw6383614241601562808 : True := trivial
theorem top.tw681777741448182936 : True := trivial
theorem top.tw3033006917804047512 : True := trivial
theorem top.tw18134043772397237400 : True := trivial
theorem top.tw1139600151236580504 : True := trivial
theorem top.tw11199710921928265848 : True := trivial
theorem top.tw8376602336982375544 : True := trivial
theorem top.tw10008474027749305400 : True := trivial
theorem top.tw1131157812783598648 : True := trivial
theorem top.tw9843447840031818808 : True := trivial
theorem top.tw17594962761535629368 : True := trivial
theorem top.tw4331257952254489624 : True := trivial
theorem top.tw8475934720593444888 : True := trivial
theorem top.tw5245862010334584759 : True := trivial
theorem top.tw14319750081657075607 : True := trivial
theorem top.tw5868845118606482295 : True := trivial
theorem top.tw3561193834555079511 : True := trivial
theorem top.tw11520865232209809239 : True := trivial
theorem top.tw9238823003894178615 : True := trivial
theorem top.tw16487795177693110071 : True := trivial
theorem top.tw7781603739153083191 : True := trivial
theorem top.tw4395346232132896567 : True := trivial
theorem top.tw15722756333993289495 : True := trivial
theorem top.tw7830913209206220567 : True := trivial
theorem top.tw1981915974141516567 : True := trivial
theorem top.tw6437491534119592663 : True := trivial
theorem top.tw4721632059943922391 : True := trivial
theorem top.tw12012865196380796599 : True := trivial
theorem top.tw8139039716903228087 : True := trivial
theorem top.tw8143265674769528471 : True := trivial
theorem top.tw12182655422080760471 : True := trivial
theorem top.tw15349318334595610263 : True := trivial
theorem top.tw18444284757076569719 : True := trivial
theorem top.tw14120148312427719287 : True := trivial
theorem top.tw4299629679881509495 : True := trivial
theorem top.tw11889597043561437815 : True := trivial
theorem top.tw8388089289598778967 : True := trivial
theorem top.tw16264823338695392855 : True := trivial
theorem top.tw2312856594315299383 : True := trivial
theorem top.tw1302751319478683191 : True := trivial
theorem top.tw14065501367340364311 : True := trivial
theorem top.tw9576743257966636567 : True := trivial
theorem top.tw3120133295221510679 : True := trivial
theorem top.tw14996135249977892343 : True := trivial
theorem top.tw3389129807090800087 : True := trivial
theorem top.tw7381879191629600215 : True := trivial
theorem top.tw12751139281825843639 : True := trivial
theorem top.tw9332579688445097367 : True := trivial
theorem top.tw3712731000106771831 : True := trivial
theorem top.tw7204998973626084599 : True := trivial
theorem top.tw12318557346453588183 : True := trivial
theorem top.tw16885616592811714743 : True := trivial
theorem top.tw1970226141267450039 : True := trivial
theorem top.tw7458633546980236471 : True := trivial
theorem top.tw4052878762203253943 : True := trivial
theorem top.tw620129878449983639 : True := trivial
theorem top.tw17492772389151264855 : True := trivial
theorem top.tw14466935161476858967 : True := trivial
theorem top.tw11053662475850362967 : True := trivial
theorem top.tw6438537300738474071 : True := trivial
theorem top.tw419386298079150103 : True := trivial
theorem top.tw16281582537960229878 : True := trivial
theorem top.tw10194810499950245846 : True := trivial
theorem top.tw7549577893838418902 : True := trivial
theorem top.tw913810622518204374 : True := trivial
theorem top.tw15330153412207162294 : True := trivial
theorem top.tw3584897518013459382 : True := trivial
theorem top.tw11646828089304223638 : True := trivial
theorem top.tw16739174306508632950 : True := trivial
theorem top.tw8657480035899644758 : True := trivial
theorem top.tw3473093325804163894 : True := trivial
theorem top.tw9429129263215473398 : True := trivial
theorem top.tw4166218997396506358 : True := trivial
theorem top.tw1195175773429642966 : True := trivial
theorem top.tw17050326753033342646 : True := trivial
theorem top.tw8694864300669457046 : True := trivial
theorem top.tw15169761463676818070 : True := trivial
theorem top.tw10353446712322349686 : True := trivial
theorem top.tw5568030912866071158 : True := trivial
theorem top.tw16793009285197534838 : True := trivial
theorem top.tw15638586536077026902 : True := trivial
theorem top.tw9366391650621772374 : True := trivial
theorem top.tw15003358760713899574 : True := trivial
theorem top.tw12798319543541648950 : True := trivial
theorem top.tw231919175587332662 : True := trivial
theorem top.tw11159431927160009238 : True := trivial
theorem top.tw15362295582089109014 : True := trivial
theorem top.tw4736427724481360342 : True := trivial
theorem top.tw13264354339760550358 : True := trivial
theorem top.tw5648408011753718230 : True := trivial
theorem top.tw4023782888421380502 : True := trivial
theorem top.tw17346259052997144950 : True := trivial
theorem top.tw8054331753737935190 : True := trivial
theorem top.tw10801874191123338550 : True := trivial
theorem top.tw832561496525075734 : True := trivial
theorem top.tw9287724387753133302 : True := trivial
theorem top.tw12443789822770055382 : True := trivial
theorem top.tw8265311939077410998 : True := trivial
theorem top.tw4626048006780466326 : True := trivial
theorem top.tw9800703332001039478 : True := trivial
theorem top.tw13044034144603486326 : True := trivial
theorem top.tw14705559076539443318 : True := trivial
theorem top.tw16394108629617908822 : True := trivial
theorem top.tw17342085116792181814 : True := trivial
theorem top.tw4898356984482387957 : True := trivial
theorem top.tw1366310378809935829 : True := trivial
theorem top.tw18367679650794681301 : True := trivial
theorem top.tw492879137614061493 : True := trivial
theorem top.tw10372856604765933493 : True := trivial
theorem top.tw350670483859837877 : True := trivial
theorem top.tw9777375502002234229 : True := trivial
theorem top.tw9854310039474760501 : True := trivial
theorem top.tw5196900775432865589 : True := trivial
theorem top.tw13345470168829271861 : True := trivial
theorem top.tw9337598699680167669 : True := trivial
theorem top.tw10242591131026960117 : True := trivial
theorem top.tw8017866829061265141 : True := trivial
theorem top.tw4058662728301269685 : True := trivial
theorem top.tw15242500199121756853 : True := trivial
theorem top.tw10797620697341660853 : True := trivial
theorem top.tw14302626303956677269 : True := trivial
theorem top.tw16034636559557993077 : True := trivial
theorem top.tw11533307084868028949 : True := trivial
theorem top.tw72247145696351765 : True := trivial
theorem top.tw18371284783138465269 : True := trivial
theorem top.tw11203750815551599093 : True := trivial
theorem top.tw2175593866937868789 : True := trivial
theorem top.tw4213018616267185653 : True := trivial
theorem top.tw7740461459972228597 : True := trivial
theorem top.tw13422432716488540661 : True := trivial
theorem top.tw575894324575664597 : True := trivial
theorem top.tw12079853824583626197 : True := trivial
theorem top.tw2644727805214041557 : True := trivial
theorem top.tw2220570432770164149 : True := trivial
theorem top.tw439095664309466517 : True := trivial
theorem top.tw7386116660499605909 : True := trivial
theorem top.tw6276886402236213621 : True := trivial
theorem top.tw4794103334133158261 : True := trivial
theorem top.tw11334203419191126389 : True := trivial
theorem top.tw1988063486488863061 : True := trivial
theorem top.tw859137505422859605 : True := trivial
theorem top.tw11960245374511038805 : True := trivial
theorem top.tw15431936980592406869 : True := trivial
theorem top.tw13549259019975226677 : True := trivial
theorem top.tw2167618695193717045 : True := trivial
theorem top.tw3739144386018749749 : True := trivial
theorem top.tw4791253341166991637 : True := trivial
theorem top.tw14402358008270493973 : True := trivial
theorem top.tw8817415213059835157 : True := trivial
theorem top.tw14166325574356235509 : True := trivial
theorem top.tw18374746225686918389 : True := trivial
theorem top.tw16882738081622503669 : True := trivial
theorem top.tw11468358511172941013 : True := trivial
theorem top.tw10562855833978642645 : True := trivial
theorem top.tw11994683656316670133 : True := trivial
theorem top.tw13047834502658803893 : True := trivial
theorem top.tw650146959520709813 : True := trivial
theorem top.tw1867163669062818997 : True := trivial
theorem top.tw6664487174759623829 : True := trivial
theorem top.tw9854493187847425173 : True := trivial
theorem top.tw4778504736273101941 : True := trivial
theorem top.tw2924597203103170677 : True := trivial
theorem top.tw4796303294375832693 : True := trivial
theorem top.tw2686433634493928565 : True := trivial
theorem top.tw8340158742958640245 : True := trivial
theorem top.tw17157282023139344501 : True := trivial
theorem top.tw14707807475535933493 : True := trivial
theorem top.tw4784893810139332661 : True := trivial
theorem top.tw5225916559131626549 : True := trivial
theorem top.tw13983857475226248213 : True := trivial
theorem top.tw1133962829069929460 : True := trivial
theorem top.tw6265701101103706036 : True := trivial
theorem top.tw6694047246710070196 : True := trivial
theorem top.tw16759092144687519636 : True := trivial
theorem top.tw1897025099450329940 : True := trivial
theorem top.tw12535971307161669396 : True := trivial
theorem top.tw11922380849998532372 : True := trivial
theorem top.tw4159251561096739476 : True := trivial
theorem top.tw1284575025550258836 : True := trivial
theorem top.tw3698484244233388692 : True := trivial
theorem top.tw1617357707322924660 : True := trivial
theorem top.tw11760055953109336660 : True := trivial
theorem top.tw8800459187187324500 : True := trivial
theorem top.tw5691087667936548404 : True := trivial
theorem top.tw14562072457839527476 : True := trivial
theorem top.tw17022078359063049780 : True := trivial
theorem top.tw14309182039651084788 : True := trivial
theorem top.tw7079599612431449588 : True := trivial
theorem top.tw9410359166525395380 : True := trivial
theorem top.tw7799483888651840948 : True := trivial
theorem top.tw14789260269991461300 : True := trivial
theorem top.tw7714757148821155124 : True := trivial
theorem top.tw9407396174263392564 : True := trivial
theorem top.tw84136930442132756 : True := trivial
theorem top.tw9442318146202087700 : True := trivial
theorem top.tw1394568958698188020 : True := trivial
theorem top.tw12415523145999629524 : True := trivial
theorem top.tw16342770487823414484 : True := trivial
theorem top.tw11803689641445798100 : True := trivial
theorem top.tw13975414291046593716 : True := trivial
theorem top.tw16509065781470453940 : True := trivial
theorem top.tw15918733279669447828 : True := trivial
theorem top.tw1676862907878916244 : True := trivial
theorem top.tw4181406029030974548 : True := trivial
theorem top.tw9635476784945057844 : True := trivial
theorem top.tw5771795636922677268 : True := trivial
theorem top.tw4526881389914513428 : True := trivial
theorem top.tw12643491718579748851 : True := trivial
theorem top.tw15166127791298437107 : True := trivial
theorem top.tw2758071753971750899 : True := trivial
theorem top.tw17486766287000646611 : True := trivial
theorem top.tw7743179893348639699 : True := trivial
theorem top.tw1492452104121835379 : True := trivial
theorem top.tw8874702517807110003 : True := trivial
theorem top.tw7160873610591055699 : True := trivial
theorem top.tw5278709424875269971 : True := trivial
theorem top.tw12117888159696746259 : True := trivial
theorem top.tw3876562946101039859 : True := trivial
theorem top.tw9843949296442739443 : True := trivial
theorem top.tw877433047237710547 : True := trivial
theorem top.tw16612331741718818515 : True := trivial
theorem top.tw13420762306968818387 : True := trivial
theorem top.tw14558130701515357843 : True := trivial
theorem top.tw13007260833023717011 : True := trivial
theorem top.tw8903290554218469011 : True := trivial
theorem top.tw8450641986135516787 : True := trivial
theorem top.tw1275901062530889299 : True := trivial
theorem top.tw16157251822727197267 : True := trivial
theorem top.tw5398424786039705171 : True := trivial
theorem top.tw16752354649701903923 : True := trivial
theorem top.tw11732849358908057107 : True := trivial
theorem top.tw729201693064108563 : True := trivial
theorem top.tw6662652255960138227 : True := trivial
theorem top.tw11133666699803404755 : True := trivial
theorem top.tw5088376156974544275 : True := trivial
theorem top.tw11141966352661209427 : True := trivial
theorem top.tw1117029662656177491 : True := trivial
theorem top.tw4556945988199806259 : True := trivial
theorem top.tw13432635357386499347 : True := trivial
theorem top.tw5705847716771211507 : True := trivial
theorem top.tw16204670001084760307 : True := trivial
theorem top.tw2007660962349395123 : True := trivial
theorem top.tw3663364146628395187 : True := trivial
theorem top.tw7387763944681370771 : True := trivial
theorem top.tw4345882819342510227 : True := trivial
theorem top.tw9229161468869434483 : True := trivial
theorem top.tw5507162329139097715 : True := trivial
theorem top.tw4571971715460732019 : True := trivial
theorem top.tw18297691965846887475 : True := trivial
theorem top.tw887695700811335699 : True := trivial
theorem top.tw17790942634138044402 : True := trivial
theorem top.tw16795567611416646642 : True := trivial
theorem top.tw1483126911874232274 : True := trivial
theorem top.tw17177869089781658578 : True := trivial
theorem top.tw18016941796951652274 : True := trivial
theorem top.tw8148004212497801138 : True := trivial
theorem top.tw4699463449715708850 : True := trivial
theorem top.tw2619622883677149074 : True := trivial
theorem top.tw16550210197400561554 : True := trivial
theorem top.tw8025738503920905074 : True := trivial
theorem top.tw4232285709927190386 : True := trivial
theorem top.tw10090393231696489298 : True := trivial
theorem top.tw12540527436937284434 : True := trivial
theorem top.tw15092371282622821202 : True := trivial
theorem top.tw10987319290404115282 : True := trivial
theorem top.tw3357215229441099570 : True := trivial
theorem top.tw13261893007816960818 : True := trivial
theorem top.tw14399976873020721970 : True := trivial
theorem top.tw9328819404386307858 : True := trivial
theorem top.tw705360758644809490 : True := trivial
theorem top.tw8645369167282567922 : True := trivial
theorem top.tw427420600052151026 : True := trivial
theorem top.tw16866024460163772082 : True := trivial
theorem top.tw132903981291199154 : True := trivial
theorem top.tw1137235612907882162 : True := trivial
theorem top.tw6468107147075657394 : True := trivial
theorem top.tw13947007510445982354 : True := trivial
theorem top.tw3843465024185675410 : True := trivial
theorem top.tw9171128306802026098 : True := trivial
theorem top.tw8720027088463671890 : True := trivial
theorem top.tw156775121503410738 : True := trivial
theorem top.tw16354691339474908690 : True := trivial
theorem top.tw14657780768301432306 : True := trivial
theorem top.tw5536038536531405202 : True := trivial
theorem top.tw2907113945770861938 : True := trivial
theorem top.tw15877122091014420850 : True := trivial
theorem top.tw8372035913837991250 : True := trivial
theorem top.tw3855276242980373810 : True := trivial
theorem top.tw2287362676942042354 : True := trivial
theorem top.tw9259421805112917234 : True := trivial
theorem top.tw12960919825447276754 : True := trivial
theorem top.tw7188692134583612594 : True := trivial
theorem top.tw16597617366809209970 : True := trivial
theorem top.tw987869383939708018 : True := trivial
theorem top.tw908825868028484722 : True := trivial
theorem top.tw12564220515667953714 : True := trivial
theorem top.tw4076138812419527698 : True := trivial
theorem top.tw10836530967397901330 : True := trivial
theorem top.tw7138430578808182737 : True := trivial
theorem top.tw2822501910515967889 : True := trivial
theorem top.tw1990408344712342385 : True := trivial
theorem top.tw4158126171336067921 : True := trivial
theorem top.tw7326723310030351153 : True := trivial
theorem top.tw18008055252877512497 : True := trivial
theorem top.tw13307591127769906961 : True := trivial
theorem top.tw2095105360761779985 : True := trivial
theorem top.tw9335426496214029073 : True := trivial
theorem top.tw2446451932059125521 : True := trivial
theorem top.tw5225153198818245361 : True := trivial
theorem top.tw9166809390415177425 : True := trivial
theorem top.tw408693308722189009 : True := trivial
theorem top.tw10314897760869050033 : True := trivial
theorem top.tw14301671488300290737 : True := trivial
theorem top.tw1706793611546318481 : True := trivial
theorem top.tw8693662901424576113 : True := trivial
theorem top.tw2630061898475652689 : True := trivial
theorem top.tw10219655510578893393 : True := trivial
theorem top.tw7522852383072776753 : True := trivial
theorem top.tw9305691244287143441 : True := trivial
theorem top.tw11457754044182789617 : True := trivial
theorem top.tw8204474986945543665 : True := trivial
theorem top.tw17828378304095215089 : True := trivial
theorem top.tw17812800136193396209 : True := trivial
theorem top.tw7913636548009798097 : True := trivial
theorem top.tw8823455108540655025 : True := trivial
theorem top.tw14597223018079223185 : True := trivial
theorem top.tw8297286125493194097 : True := trivial
theorem top.tw870079450109401425 : True := trivial
theorem top.tw16634809260590126417 : True := trivial
theorem top.tw7250933059871147345 : True := trivial
theorem top.tw8547604310838440241 : True := trivial
theorem top.tw17226846203573267761 : True := trivial
theorem top.tw1245559373397905713 : True := trivial
theorem top.tw10996937224433265937 : True := trivial
theorem top.tw6143595290313323761 : True := trivial
theorem top.tw18086089286151905521 : True := trivial
theorem top.tw3820434133910038737 : True := trivial
theorem top.tw2926424126403749041 : True := trivial
theorem top.tw10596656941412748465 : True := trivial
theorem top.tw6196800358849779857 : True := trivial
theorem top.tw7429413206186439793 : True := trivial
theorem top.tw6263863080660174929 : True := trivial
theorem top.tw8393700709775954928 : True := trivial
theorem top.tw12507017104952529904 : True := trivial
theorem top.tw12610894086807397328 : True := trivial
theorem top.tw4383139521930768336 : True := trivial
theorem top.tw6900192571869012848 : True := trivial
theorem top.tw12234304398684708688 : True := trivial
theorem top.tw7360070258638436176 : True := trivial
theorem top.tw12342655685612074800 : True := trivial
theorem top.tw15095372191486117680 : True := trivial
theorem top.tw11842451847925006096 : True := trivial
theorem top.tw7600245330811189008 : True := trivial
theorem top.tw8410488445778877200 : True := trivial
theorem top.tw10577396366154187472 : True := trivial
theorem top.tw14537839394382259888 : True := trivial
theorem top.tw2968346561183084112 : True := trivial
theorem top.tw602653604445443664 : True := trivial
theorem top.tw7273676953221729872 : True := trivial
theorem top.tw2752453847809088016 : True := trivial
theorem top.tw7849799639701767664 : True := trivial
theorem top.tw3061314461118691792 : True := trivial
theorem top.tw17576949682797635024 : True := trivial
theorem top.tw7908083297732987344 : True := trivial
theorem top.tw7444641836354208208 : True := trivial
theorem top.tw2712389131950775728 : True := trivial
theorem top.tw8735323631387419056 : True := trivial
theorem top.tw5341934141677670832 : True := trivial
theorem top.tw1585457916280141200 : True := trivial
theorem top.tw2009410202504348048 : True := trivial
theorem top.tw9382581127745807760 : True := trivial
theorem top.tw13901205277877782832 : True := trivial
theorem top.tw12554540806306477360 : True := trivial
theorem top.tw104434173382791472 : True := trivial
theorem top.tw10276331973627342096 : True := trivial
theorem top.tw7414872774492366064 : True := trivial
theorem top.tw8538268897159353584 : True := trivial
theorem top.tw11982747722937265360 : True := trivial
theorem top.tw5235370132326077648 : True := trivial
theorem top.tw3664424711883983056 : True := trivial
theorem top.tw3591793333600012464 : True := trivial
theorem top.tw390997316461189296 : True := trivial
theorem top.tw6893477703608230032 : True := trivial
theorem top.tw10968536479657739408 : True := trivial
theorem top.tw12392516345856041104 : True := trivial
theorem top.tw2145171640123136144 : True := trivial
theorem top.tw1843344800811705456 : True := trivial
theorem top.tw4186445540838780016 : True := trivial
theorem top.tw16793365374058956912 : True := trivial
theorem top.tw2870673217330660432 : True := trivial
theorem top.tw1040915598704419856 : True := trivial
theorem top.tw1559226430018442191 : True := trivial
theorem top.tw9378254376102152143 : True := trivial
theorem top.tw352232786441526191 : True := trivial
theorem top.tw13377010962257164207 : True := trivial
theorem top.tw9319964216562750351 : True := trivial
theorem top.tw2126296398998916975 : True := trivial
theorem top.tw10296497611174029103 : True := trivial
theorem top.tw10567129059001840431 : True := trivial
theorem top.tw46980244435833615 : True := trivial
theorem top.tw12714690216161085199 : True := trivial
theorem top.tw5581607755468803823 : True := trivial
theorem top.tw8369368087495890639 : True := trivial
theorem top.tw17756194745548210895 : True := trivial
theorem top.tw2103985501979894447 : True := trivial
theorem top.tw17138679496734019247 : True := trivial
theorem top.tw11145643937294416527 : True := trivial
theorem top.tw9590735534726013551 : True := trivial
theorem top.tw10010203797729834575 : True := trivial
theorem top.tw11779653239440661071 : True := trivial
theorem top.tw16809779246217341487 : True := trivial
theorem top.tw1880918794155911695 : True := trivial
theorem top.tw11765434788231831023 : True := trivial
theorem top.tw9913501989792142831 : True := trivial
theorem top.tw13326734554550294991 : True := trivial
theorem top.tw2422214840401454511 : True := trivial
theorem top.tw17240160907184977327 : True := trivial
theorem top.tw7198060816514059695 : True := trivial
theorem top.tw7737320934136571279 : True := trivial
theorem top.tw4655869559712951663 : True := trivial
theorem top.tw5596365628329696591 : True := trivial
theorem top.tw2707679213066786127 : True := trivial
theorem top.tw9631074621892390191 : True := trivial
theorem top.tw16900427199656544559 : True := trivial
theorem top.tw381845443943030031 : True := trivial
theorem top.tw8560541052185303311 : True := trivial
theorem top.tw17565814175750979855 : True := trivial
theorem top.tw14697636140705633519 : True := trivial
theorem top.tw9190159020981308655 : True := trivial
theorem top.tw1123975283337734383 : True := trivial
theorem top.tw1638113669730673903 : True := trivial
theorem top.tw11334350811105764591 : True := trivial
theorem top.tw1759469698184221871 : True := trivial
theorem top.tw2910609919460849807 : True := trivial
theorem top.tw6898770573198911631 : True := trivial
theorem top.tw8640417174963836015 : True := trivial
theorem top.tw18185382058313985135 : True := trivial
theorem top.tw13759081321499198575 : True := trivial
theorem top.tw17176029603704830031 : True := trivial
theorem top.tw11503242561204267055 : True := trivial
theorem top.tw18229784292405043182 : True := trivial
theorem top.tw5938664839603501006 : True := trivial
theorem top.tw15985961358823992270 : True := trivial
theorem top.tw3453223234828964814 : True := trivial
theorem top.tw15438179002428589006 : True := trivial
theorem top.tw12958502747184954254 : True := trivial
theorem top.tw4547113066930546574 : True := trivial
theorem top.tw15503665604740900718 : True := trivial
theorem top.tw12718909917080609646 : True := trivial
theorem top.tw15299407806266782574 : True := trivial
theorem top.tw6553124395847675662 : True := trivial
theorem top.tw8922926602274725614 : True := trivial
theorem top.tw5380135791562185454 : True := trivial
theorem top.tw17542608870123051758 : True := trivial
theorem top.tw10362775142378211054 : True := trivial
theorem top.tw9464869716654597838 : True := trivial
theorem top.tw13257903609656968878 : True := trivial
theorem top.tw6124053682588569230 : True := trivial
theorem top.tw1803303928475200142 : True := trivial
theorem top.tw893595371883084398 : True := trivial
theorem top.tw15240379268576122478 : True := trivial
theorem top.tw1142415686869020238 : True := trivial
theorem top.tw10558761922227201614 : True := trivial
theorem top.tw9250549774821547598 : True := trivial
theorem top.tw9822532417609929294 : True := trivial
theorem top.tw2462062305354472974 : True := trivial
theorem top.tw12894197372075662830 : True := trivial
theorem top.tw6916252892733821390 : True := trivial
theorem top.tw5571243529121415630 : True := trivial
theorem top.tw13474863142627684814 : True := trivial
theorem top.tw18386854893347148238 : True := trivial
theorem top.tw2544169868661182894 : True := trivial
theorem top.tw5476889619067714990 : True := trivial
theorem top.tw405421117753717134 : True := trivial
theorem top.tw6506245621856685454 : True := trivial
theorem top.tw7297446738713254254 : True := trivial
theorem top.tw15451780782824253742 : True := trivial
theorem top.tw12209182163369298222 : True := trivial
theorem top.tw8472579005086612782 : True := trivial
theorem top.tw6203543418390704334 : True := trivial
theorem top.tw12385144161495827662 : True := trivial
theorem top.tw11840804652615492782 : True := trivial
theorem top.tw16994376123345812558 : True := trivial
theorem top.tw14502225709538309166 : True := trivial
theorem top.tw16426902794028739630 : True := trivial
theorem top.tw1974259917200649262 : True := trivial
theorem top.tw2104741419117168686 : True := trivial
theorem top.tw7439886461454727182 : True := trivial
theorem top.tw16357309143852133390 : True := trivial
theorem top.tw13318506193475082254 : True := trivial
theorem top.tw13191473780850816973 : True := trivial
theorem top.tw12427389293880184781 : True := trivial
theorem top.tw1516213087968936877 : True := trivial
theorem top.tw661290744650703789 : True := trivial
theorem top.tw10574840078274726829 : True := trivial
theorem top.tw672699306608606093 : True := trivial
theorem top.tw16869365282274683789 : True := trivial
theorem top.tw17921175469725437805 : True := trivial
theorem top.tw8265191368974092141 : True := trivial
theorem top.tw17964300760807480141 : True := trivial
theorem top.tw12080426169559351053 : True := trivial
theorem top.tw2581206410525282061 : True := trivial
theorem top.tw16719718919923625709 : True := trivial
theorem top.tw4940147422707163885 : True := trivial
theorem top.tw13830271770371739309 : True := trivial
theorem top.tw682014064893787789 : True := trivial
theorem top.tw283044589724301 : True := trivial
theorem top.tw2742194189697913485 : True := trivial
theorem top.tw10774637447528242797 : True := trivial
theorem top.tw15304316869575863853 : True := trivial
theorem top.tw18062624165398249997 : True := trivial
theorem top.tw13743916774706631149 : True := trivial
theorem top.tw3715792687998586317 : True := trivial
theorem top.tw3479634599624807885 : True := trivial
theorem top.tw15125931889511115149 : True := trivial
theorem top.tw11038064363049568621 : True := trivial
theorem top.tw1112988674713690477 : True := trivial
theorem top.tw14510474431719978317 : True := trivial
theorem top.tw4586369020291528013 : True := trivial
theorem top.tw16844067456194695469 : True := trivial
theorem top.tw17337222044243258637 : True := trivial
theorem top.tw15542300402876303629 : True := trivial
theorem top.tw7744093853086628109 : True := trivial
theorem top.tw17555251805378815213 : True := trivial
theorem top.tw16352630495959832749 : True := trivial
theorem top.tw3846862658102513837 : True := trivial
theorem top.tw17135812771915316397 : True := trivial
theorem top.tw7527032243904285869 : True := trivial
theorem top.tw16174758807025615021 : True := trivial
theorem top.tw18137363274558907533 : True := trivial
theorem top.tw55027467381167213 : True := trivial
theorem top.tw13822267516522204269 : True := trivial
theorem top.tw2165817408578904141 : True := trivial
theorem top.tw15383718091736126541 : True := trivial
theorem top.tw14453841093610474573 : True := trivial
theorem top.tw15151295755643613229 : True := trivial
theorem top.tw372964977893139469 : True := trivial
theorem top.tw6240723676877644813 : True := trivial
theorem top.tw4140400230785697805 : True := trivial
theorem top.tw6942226510957090829 : True := trivial
theorem top.tw2365566498512967660 : True := trivial
theorem top.tw16326585352142918636 : True := trivial
theorem top.tw13987285891283452908 : True := trivial
theorem top.tw17323899518341599180 : True := trivial
theorem top.tw10404823597219466188 : True := trivial
theorem top.tw13902025155065610156 : True := trivial
theorem top.tw2680655200719965100 : True := trivial
theorem top.tw14429954968415203212 : True := trivial
theorem top.tw16240068400928781132 : True := trivial
theorem top.tw9358617607463016204 : True := trivial
theorem top.tw2511388062720753356 : True := trivial
theorem top.tw12958664272152378060 : True := trivial
theorem top.tw4951766788466123468 : True := trivial
theorem top.tw17377934564383891116 : True := trivial
theorem top.tw12603656398198563500 : True := trivial
theorem top.tw3254097082911018636 : True := trivial
theorem top.tw17781115878593249900 : True := trivial
theorem top.tw11542710104232473196 : True := trivial
theorem top.tw8746941081350896204 : True := trivial
theorem top.tw93012567124736588 : True := trivial
theorem top.tw5925500843972428364 : True := trivial
theorem top.tw6730409883041537580 : True := trivial
theorem top.tw6503730183909636620 : True := trivial
theorem top.tw10768140376307724812 : True := trivial
theorem top.tw9195894827357321740 : True := trivial
theorem top.tw6333448901615975916 : True := trivial
theorem top.tw13799840507378627052 : True := trivial
theorem top.tw5240762971458559404 : True := trivial
theorem top.tw3969286963782609292 : True := trivial
theorem top.tw3331421620988305804 : True := trivial
theorem top.tw17046948494117081484 : True := trivial
theorem top.tw9833397302626899308 : True := trivial
theorem top.tw5609151216138764652 : True := trivial
theorem top.tw16919938111736474924 : True := trivial
theorem top.tw17470836177267949868 : True := trivial
theorem top.tw2443449257678562572 : True := trivial
theorem top.tw15744752440731449612 : True := trivial
theorem top.tw16867736680707633420 : True := trivial
theorem top.tw12704153843328093452 : True := trivial
theorem top.tw5077617475879078156 : True := trivial
theorem top.tw13029900630750994668 : True := trivial
theorem top.tw7926136590108786892 : True := trivial
theorem top.tw7249705126575804556 : True := trivial
theorem top.tw9776112803966576748 : True := trivial
theorem top.tw7191137982244381804 : True := trivial
theorem top.tw15985680467844229196 : True := trivial
theorem top.tw5915399644114372684 : True := trivial
theorem top.tw9227057690007400460 : True := trivial
theorem top.tw10871174231137468428 : True := trivial
theorem top.tw12772138429114895339 : True := trivial
theorem top.tw17576975557295073227 : True := trivial
theorem top.tw12329864456250741675 : True := trivial
theorem top.tw5786237608948540331 : True := trivial
theorem top.tw13713866747541496747 : True := trivial
theorem top.tw9233335307524088747 : True := trivial
theorem top.tw2063449620868658059 : True := trivial
theorem top.tw9962302188120564619 : True := trivial
theorem top.tw17774833976778514315 : True := trivial
theorem top.tw15271675978053873483 : True := trivial
theorem top.tw14282377253939248939 : True := trivial
theorem top.tw17489137672866753323 : True := trivial
theorem top.tw17315540178315561739 : True := trivial
theorem top.tw2170277104671012619 : True := trivial
theorem top.tw15766219058475960075 : True := trivial
theorem top.tw956942650209027819 : True := trivial
theorem top.tw17391775962083533515 : True := trivial
theorem top.tw17444329988762607307 : True := trivial
theorem top.tw14709367294833977003 : True := trivial
theorem top.tw8140125068956082859 : True := trivial
theorem top.tw1522322319653140107 : True := trivial
theorem top.tw13272337422414781067 : True := trivial
theorem top.tw15350006587542526571 : True := trivial
theorem top.tw10252623693936335467 : True := trivial
theorem top.tw9936536881743500907 : True := trivial
theorem top.tw16415559393655328363 : True := trivial
theorem top.tw6674990990233134667 : True := trivial
theorem top.tw7587601194962177611 : True := trivial
theorem top.tw17785818512168800811 : True := trivial
theorem top.tw9806617501295524395 : True := trivial
theorem top.tw6430265229019958763 : True := trivial
theorem top.tw13706816188851595723 : True := trivial
theorem top.tw9111341701214203307 : True := trivial
theorem top.tw6431110157172167083 : True := trivial
theorem top.tw12031303853943761323 : True := trivial
theorem top.tw9622763587122877835 : True := trivial
theorem top.tw6812286434817487243 : True := trivial
theorem top.tw8598144960395782539 : True := trivial
theorem top.tw1312780250039628139 : True := trivial
theorem top.tw10328360990557673835 : True := trivial
theorem top.tw14810493832863049995 : True := trivial
theorem top.tw3002795768020413707 : True := trivial
theorem top.tw4828031223510198475 : True := trivial
theorem top.tw2683898200743741643 : True := trivial
theorem top.tw13370750898655102155 : True := trivial
theorem top.tw17794366733547915435 : True := trivial
theorem top.tw6919701780365589675 : True := trivial
theorem top.tw14248925298954806443 : True := trivial
theorem top.tw16149628235652541579 : True := trivial
theorem top.tw5005317128667965579 : True := trivial
theorem top.tw9308151640839208011 : True := trivial
theorem top.tw243287103678006315 : True := trivial
theorem top.tw6057728870046649322 : True := trivial
theorem top.tw6624316729101989866 : True := trivial
theorem top.tw8975108423156789194 : True := trivial
theorem top.tw5513142621748847562 : True := trivial
theorem top.tw9951221954081769418 : True := trivial
theorem top.tw16525863338940772298 : True := trivial
theorem top.tw8443935842833279946 : True := trivial
theorem top.tw14724332232928298890 : True := trivial
theorem top.tw1321871150748368714 : True := trivial
theorem top.tw1655259298481077034 : True := trivial
theorem top.tw1142465760834251562 : True := trivial
theorem top.tw16068562728529669930 : True := trivial
theorem top.tw13889309363888878346 : True := trivial
theorem top.tw17469865338272021226 : True := trivial
theorem top.tw9919435345466941130 : True := trivial
theorem top.tw5938710623178642122 : True := trivial
theorem top.tw13844505572957833930 : True := trivial
theorem top.tw7717162694582976202 : True := trivial
theorem top.tw17085176360113175178 : True := trivial
theorem top.tw12193372218175167114 : True := trivial
theorem top.tw8184561461823581802 : True := trivial
theorem top.tw1999819345807860298 : True := trivial
theorem top.tw12218787953657430602 : True := trivial
theorem top.tw2125386657190883914 : True := trivial
theorem top.tw1595350964381101642 : True := trivial
theorem top.tw2369445192022557226 : True := trivial
theorem top.tw14372152842798730730 : True := trivial
theorem top.tw16004416686337608138 : True := trivial
theorem top.tw501154541418245514 : True := trivial
theorem top.tw5804503181746721162 : True := trivial
theorem top.tw342308947776675178 : True := trivial
theorem top.tw17160434163424456010 : True := trivial
theorem top.tw9437893007894698314 : True := trivial
theorem top.tw5058314954733539658 : True := trivial
theorem top.tw5483185372664623402 : True := trivial
theorem top.tw9233715247699887402 : True := trivial
theorem top.tw1293289543672728842 : True := trivial
theorem top.tw14317375437502057738 : True := trivial
theorem top.tw7204493036743257322 : True := trivial
theorem top.tw8523463495250067690 : True := trivial
theorem top.tw10187724287525710026 : True := trivial
theorem top.tw12166907935582030026 : True := trivial
theorem top.tw9059672392935016618 : True := trivial
theorem top.tw10763682846017881258 : True := trivial
theorem top.tw12756434147638494346 : True := trivial
theorem top.tw16674975167109581930 : True := trivial
theorem top.tw3315250197877816394 : True := trivial
theorem top.tw8729362747519067210 : True := trivial
theorem top.tw2732273902793177162 : True := trivial
theorem top.tw6600658504840714314 : True := trivial
theorem top.tw339143206060000330 : True := trivial
theorem top.tw12340227926317113386 : True := trivial
theorem top.tw9990226795618131978 : True := trivial
theorem top.tw12043218685254973450 : True := trivial
theorem top.tw8622502720953521162 : True := trivial
theorem top.tw13187519465064655849 : True := trivial
theorem top.tw2770239361232196585 : True := trivial
theorem top.tw10915162052029792233 : True := trivial
theorem top.tw4671429814451907529 : True := trivial
theorem top.tw516228168201391017 : True := trivial
theorem top.tw17788931634197215145 : True := trivial
theorem top.tw3378803678994701225 : True := trivial
theorem top.tw9326722878772556681 : True := trivial
theorem top.tw3087888393795971977 : True := trivial
theorem top.tw657111498738832265 : True := trivial
theorem top.tw12777601194060584777 : True := trivial
theorem top.tw7845129631348957993 : True := trivial
theorem top.tw5099300909881856777 : True := trivial
theorem top.tw4872296631132183273 : True := trivial
theorem top.tw13571448547899197161 : True := trivial
theorem top.tw12625694945159114441 : True := trivial
theorem top.tw3537363296774646473 : True := trivial
theorem top.tw8637452081102412489 : True := trivial
theorem top.tw16782997733028217545 : True := trivial
theorem top.tw14687197162769931945 : True := trivial
theorem top.tw7980593446034420393 : True := trivial
theorem top.tw7675417749720738473 : True := trivial
theorem top.tw13290321428070320777 : True := trivial
theorem top.tw15569959144833144457 : True := trivial
theorem top.tw4555866861457887817 : True := trivial
theorem top.tw11561827921928013385 : True := trivial
theorem top.tw6509661102738689577 : True := trivial
theorem top.tw16123964013534891561 : True := trivial
theorem top.tw3618190572293784073 : True := trivial
theorem top.tw10512489437642701289 : True := trivial
theorem top.tw14082171712413598185 : True := trivial
theorem top.tw5547924453111285193 : True := trivial
theorem top.tw5290597957214086601 : True := trivial
theorem top.tw2580922434103091657 : True := trivial
theorem top.tw17103585973383926153 : True := trivial
theorem top.tw3909029901177050473 : True := trivial
theorem top.tw12287887523310495049 : True := trivial
theorem top.tw13303987763403120937 : True := trivial
theorem top.tw15860264024139754761 : True := trivial
theorem top.tw10548783162686979305 : True := trivial
theorem top.tw12397598024624889033 : True := trivial
theorem top.tw7896245365604500681 : True := trivial
theorem top.tw15878805988109762761 : True := trivial
theorem top.tw2047500489365003465 : True := trivial
theorem top.tw13177472732611162249 : True := trivial
theorem top.tw32865551896584297 : True := trivial
theorem top.tw6906291655842520137 : True := trivial
theorem top.tw1792224892710378537 : True := trivial
theorem top.tw479018264907363369 : True := trivial
theorem top.tw517144808224063464 : True := trivial
theorem top.tw4916261283513009128 : True := trivial
theorem top.tw7230903212357928904 : True := trivial
theorem top.tw4501217679856968648 : True := trivial
theorem top.tw6042063481754889096 : True := trivial
theorem top.tw594810645892935528 : True := trivial
theorem top.tw10233937372900511528 : True := trivial
theorem top.tw2249405535684624136 : True := trivial
theorem top.tw11408453963512735496 : True := trivial
theorem top.tw14677765105775291144 : True := trivial
theorem top.tw10648311167861321448 : True := trivial
theorem top.tw17595191090738125544 : True := trivial
theorem top.tw6460121766331871944 : True := trivial
theorem top.tw5667650583090716360 : True := trivial
theorem top.tw10657950659306570408 : True := trivial
theorem top.tw12944596839952905832 : True := trivial
theorem top.tw4705723845826882120 : True := trivial
theorem top.tw11828478481110319688 : True := trivial
theorem top.tw16414630628198896168 : True := trivial
theorem top.tw9723989250521069032 : True := trivial
theorem top.tw17916939684832112104 : True := trivial
theorem top.tw12622177474791663080 : True := trivial
theorem top.tw15743347864482560488 : True := trivial
theorem top.tw12865423146811077096 : True := trivial
theorem top.tw3603051052118289896 : True := trivial
theorem top.tw1486479319815781832 : True := trivial
theorem top.tw13915387964903991752 : True := trivial
theorem top.tw6370870915552960936 : True := trivial
theorem top.tw83393220934416808 : True := trivial
theorem top.tw18063644159110109576 : True := trivial
theorem top.tw14512255991650004360 : True := trivial
theorem top.tw7108139096449030536 : True := trivial
theorem top.tw3261557481417251176 : True := trivial
theorem top.tw5240389563564037448 : True := trivial
theorem top.tw2685745773621513544 : True := trivial
theorem top.tw708234853630380328 : True := trivial
theorem top.tw13864677062968915208 : True := trivial
theorem top.tw16439428074185983240 : True := trivial
theorem top.tw9487724021038755048 : True := trivial
theorem top.tw14615657086365298920 : True := trivial
theorem top.tw16770000883354449096 : True := trivial
theorem top.tw10643057118474118344 : True := trivial
theorem top.tw4253311428353592520 : True := trivial
theorem top.tw5535988348211436712 : True := trivial
theorem top.tw13994475860397038760 : True := trivial
theorem top.tw16982378080980825192 : True := trivial
theorem top.tw3484022092364678248 : True := trivial
theorem top.tw5244899138074338376 : True := trivial
theorem top.tw8013090884974467112 : True := trivial
theorem top.tw7657828476027519975 : True := trivial
theorem top.tw4704783203804107719 : True := trivial
theorem top.tw2859833716702649255 : True := trivial
theorem top.tw3581848524822189991 : True := trivial
theorem top.tw10361075674979980167 : True := trivial
theorem top.tw14214649769353832295 : True := trivial
theorem top.tw13385244156195431271 : True := trivial
theorem top.tw12819366960792805191 : True := trivial
theorem top.tw775762912060472103 : True := trivial
theorem top.tw5186518429493523239 : True := trivial
theorem top.tw13090165191389475591 : True := trivial
theorem top.tw13968125046926948103 : True := trivial
theorem top.tw2404127567346610951 : True := trivial
theorem top.tw10864713392326063847 : True := trivial
theorem top.tw1209819496270969543 : True := trivial
theorem top.tw6883741973766446791 : True := trivial
theorem top.tw12545222027267286695 : True := trivial
theorem top.tw9165953624949470791 : True := trivial
theorem top.tw17839435632426287655 : True := trivial
theorem top.tw12931362102233154023 : True := trivial
theorem top.tw15735037969156040135 : True := trivial
theorem top.tw14214845130331304391 : True := trivial
theorem top.tw6286779285267259847 : True := trivial
theorem top.tw2731995056826638727 : True := trivial
theorem top.tw6176384092110617959 : True := trivial
theorem top.tw1950521091445644615 : True := trivial
theorem top.tw1054488965285714247 : True := trivial
theorem top.tw6459276657848829223 : True := trivial
theorem top.tw13532860479073427719 : True := trivial
theorem top.tw1697544655201012999 : True := trivial
theorem top.tw11443710868159068359 : True := trivial
theorem top.tw53344730913325255 : True := trivial
theorem top.tw8043003576528973991 : True := trivial
theorem top.tw953821971998124167 : True := trivial
theorem top.tw12256363837256957063 : True := trivial
theorem top.tw11459358961799972967 : True := trivial
theorem top.tw7557910624720293991 : True := trivial
theorem top.tw5078243831526850631 : True := trivial
theorem top.tw6491118196486620199 : True := trivial
theorem top.tw11189890337720088615 : True := trivial
theorem top.tw9572121911122791463 : True := trivial
theorem top.tw16840627104734473223 : True := trivial
theorem top.tw3195968871104189447 : True := trivial
theorem top.tw10467260515200827399 : True := trivial
theorem top.tw4870201379501977574 : True := trivial
theorem top.tw4807402645868434406 : True := trivial
theorem top.tw8679839319945467846 : True := trivial
theorem top.tw10783980745131425670 : True := trivial
theorem top.tw2506305409684761478 : True := trivial
theorem top.tw5860347150701562758 : True := trivial
theorem top.tw9694206877528517478 : True := trivial
theorem top.tw14671331368771545958 : True := trivial
theorem top.tw8985709366574770022 : True := trivial
theorem top.tw15690355392615275366 : True := trivial
theorem top.tw4835499133494076262 : True := trivial
theorem top.tw14526540143163920134 : True := trivial
theorem top.tw9614876229902214918 : True := trivial
theorem top.tw15707150460474826502 : True := trivial
theorem top.tw7715697345341360870 : True := trivial
theorem top.tw1736530178072539846 : True := trivial
theorem top.tw8420165910927482534 : True := trivial
theorem top.tw10617020205504526918 : True := trivial
theorem top.tw14042817526060737062 : True := trivial
theorem top.tw8640399195822439974 : True := trivial
theorem top.tw9514800995652322822 : True := trivial
theorem top.tw5969682004907312646 : True := trivial
theorem top.tw8435561252592420358 : True := trivial
theorem top.tw11917448952958348678 : True := trivial
theorem top.tw14645912567700417926 : True := trivial
theorem top.tw11134249225346278790 : True := trivial
theorem top.tw6749217079512962374 : True := trivial
theorem top.tw297971269722091814 : True := trivial
theorem top.tw11383000496634168614 : True := trivial
theorem top.tw5590232498371695878 : True := trivial
theorem top.tw3140898538269762758 : True := trivial
theorem top.tw9684699057600944294 : True := trivial
theorem top.tw5379463472682653830 : True := trivial
theorem top.tw8559696506817466502 : True := trivial
theorem top.tw13501252493785611398 : True := trivial
theorem top.tw6520327441239513222 : True := trivial
theorem top.tw16736118626332596326 : True := trivial
theorem top.tw12879618353801967718 : True := trivial
theorem top.tw3570499242123996262 : True := trivial
theorem top.tw4840481374290595910 : True := trivial
theorem top.tw10006222313960134694 : True := trivial
theorem top.tw2394881407643693062 : True := trivial
theorem top.tw1294077662247117797 : True := trivial
theorem top.tw3669314199184481253 : True := trivial
theorem top.tw2358008919364636645 : True := trivial
theorem top.tw11592465598724292549 : True := trivial
theorem top.tw8363718466572441477 : True := trivial
theorem top.tw9685713192446186341 : True := trivial
theorem top.tw17033825039287860005 : True := trivial
theorem top.tw9059832203979395877 : True := trivial
theorem top.tw8212240652046128837 : True := trivial
theorem top.tw1236304545764765349 : True := trivial
theorem top.tw7925146906966333093 : True := trivial
theorem top.tw7313339093194340965 : True := trivial
theorem top.tw196536941598035525 : True := trivial
theorem top.tw81815255157605957 : True := trivial
theorem top.tw3976154599441133093 : True := trivial
theorem top.tw12210559395081530917 : True := trivial
theorem top.tw9227541089923242437 : True := trivial
theorem top.tw679676368844127653 : True := trivial
theorem top.tw18201758440048473509 : True := trivial
theorem top.tw13001836021917841797 : True := trivial
theorem top.tw3695669965767098725 : True := trivial
theorem top.tw2685012915969955173 : True := trivial
theorem top.tw8892184565913893157 : True := trivial
theorem top.tw15833254233020807429 : True := trivial
theorem top.tw3657543652526465285 : True := trivial
theorem top.tw7280543176740627685 : True := trivial
theorem top.tw3796891538752321733 : True := trivial
theorem top.tw4691186174975459493 : True := trivial
theorem top.tw6505410396798821541 : True := trivial
theorem top.tw18330144715369815205 : True := trivial
theorem top.tw2565563351968343141 : True := trivial
theorem top.tw17810072253543177317 : True := trivial
theorem top.tw13071076577854836805 : True := trivial
theorem top.tw15646934709686841381 : True := trivial
theorem top.tw16120041803238788101 : True := trivial
theorem top.tw4656485037274611717 : True := trivial
theorem top.tw17412589854805754852 : True := trivial
theorem top.tw7671549972530922468 : True := trivial
theorem top.tw6763507551630497732 : True := trivial
theorem top.tw16258771989139608452 : True := trivial
theorem top.tw11093206078495630212 : True := trivial
theorem top.tw4292522238394942308 : True := trivial
theorem top.tw18301525276733806436 : True := trivial
theorem top.tw8355760468068845380 : True := trivial
theorem top.tw2700199365505918788 : True := trivial
theorem top.tw928082602103803716 : True := trivial
theorem top.tw4282000862649549572 : True := trivial
theorem top.tw13896958669275611876 : True := trivial
theorem top.tw15262977503361262276 : True := trivial
theorem top.tw12483720753089274532 : True := trivial
theorem top.tw3418912648064540324 : True := trivial
theorem top.tw14459580976405569124 : True := trivial
theorem top.tw13364640907079947876 : True := trivial
theorem top.tw13012589842206080548 : True := trivial
theorem top.tw10248073240650190340 : True := trivial
theorem top.tw370947364307004932 : True := trivial
theorem top.tw16058212318047004132 : True := trivial
theorem top.tw15498596964979890660 : True := trivial
theorem top.tw12764151676501842404 : True := trivial
theorem top.tw15525995667512963556 : True := trivial
theorem top.tw8746584487950033348 : True := trivial
theorem top.tw7817637940432870852 : True := trivial
theorem top.tw8672883130414831044 : True := trivial
theorem top.tw1717825165581474212 : True := trivial
theorem top.tw7033079012710635876 : True := trivial
theorem top.tw146815374380898660 : True := trivial
theorem top.tw17420174224997489956 : True := trivial
theorem top.tw401921906979044612 : True := trivial
theorem top.tw10694878333477680388 : True := trivial
theorem top.tw3831216023754155268 : True := trivial
theorem top.tw9831455883205970180 : True := trivial
theorem top.tw13710211086531791108 : True := trivial
theorem top.tw14450715343900746980 : True := trivial
theorem top.tw8281120267493503204 : True := trivial
theorem top.tw16734371015571099844 : True := trivial
theorem top.tw15212760480394562756 : True := trivial
theorem top.tw12787338502077490372 : True := trivial
theorem top.tw6292954644110606532 : True := trivial
theorem top.tw12033610942823940228 : True := trivial
theorem top.tw15740948416001004644 : True := trivial
theorem top.tw2737145857125637188 : True := trivial
theorem top.tw14608685727046917156 : True := trivial
theorem top.tw7847352863974893604 : True := trivial
theorem top.tw15836908640704697380 : True := trivial
theorem top.tw14920630486856261636 : True := trivial
theorem top.tw16054190913257422852 : True := trivial
theorem top.tw18338267663776618500 : True := trivial
theorem top.tw2367422256012758020 : True := trivial
theorem top.tw9590619109379692515 : True := trivial
theorem top.tw1297684725254868899 : True := trivial
theorem top.tw13305523845174962083 : True := trivial
theorem top.tw12521587561680038787 : True := trivial
theorem top.tw15024216053386777475 : True := trivial
theorem top.tw3095723055068941187 : True := trivial
theorem top.tw14796646475526232899 : True := trivial
theorem top.tw15740088241188596515 : True := trivial
theorem top.tw14632489290957082403 : True := trivial
theorem top.tw9149571693438533347 : True := trivial
theorem top.tw15008207993883188931 : True := trivial
theorem top.tw17474498911051797155 : True := trivial
theorem top.tw3871027444623705763 : True := trivial
theorem top.tw10936122117785486979 : True := trivial
theorem top.tw65929781887070819 : True := trivial
theorem top.tw11384800866962632227 : True := trivial
theorem top.tw6821124136996835843 : True := trivial
theorem top.tw15029563650323070435 : True := trivial
theorem top.tw5405092056839124451 : True := trivial
theorem top.tw1212798325632107971 : True := trivial
theorem top.tw4977374598719398275 : True := trivial
theorem top.tw3704924817259034979 : True := trivial
theorem top.tw9835852885743449411 : True := trivial
theorem top.tw15687709949711836451 : True := trivial
theorem top.tw15073315481182737699 : True := trivial
theorem top.tw17420439051587986659 : True := trivial
theorem top.tw15696354942287192291 : True := trivial
theorem top.tw4010397242664982755 : True := trivial
theorem top.tw6761616313442571491 : True := trivial
theorem top.tw10505224238033894595 : True := trivial
theorem top.tw6756868429301003459 : True := trivial
theorem top.tw8311017846404947139 : True := trivial
theorem top.tw10414433010598505635 : True := trivial
theorem top.tw13990698242589431971 : True := trivial
theorem top.tw9961057766049560675 : True := trivial
theorem top.tw17512577416206416963 : True := trivial
theorem top.tw2665807947273092163 : True := trivial
theorem top.tw14235281626263879747 : True := trivial
theorem top.tw8321918168302905379 : True := trivial
theorem top.tw14263998999751124003 : True := trivial
theorem top.tw3644161924160858147 : True := trivial
theorem top.tw2988451766255067171 : True := trivial
theorem top.tw16878204669230926818 : True := trivial
theorem top.tw450566749975022562 : True := trivial
theorem top.tw11735923915801401282 : True := trivial
theorem top.tw6220391956798857122 : True := trivial
theorem top.tw9930815651645962114 : True := trivial
theorem top.tw14751435942891637570 : True := trivial
theorem top.tw17103177528636943170 : True := trivial
theorem top.tw4392038535549328194 : True := trivial
theorem top.tw4730768163679209282 : True := trivial
theorem top.tw12425085872883035938 : True := trivial
theorem top.tw2592109501493986082 : True := trivial
theorem top.tw11470690223818410786 : True := trivial
theorem top.tw7538252964068480738 : True := trivial
theorem top.tw3302753350502126306 : True := trivial
theorem top.tw5728218623943512802 : True := trivial
theorem top.tw12502491890553978562 : True := trivial
theorem top.tw15234444972351076034 : True := trivial
theorem top.tw9739860059890490050 : True := trivial
theorem top.tw16721989186581611170 : True := trivial
theorem top.tw15254643099363442306 : True := trivial
theorem top.tw5958459099580689026 : True := trivial
theorem top.tw15748125925826647682 : True := trivial
theorem top.tw15823732540823425666 : True := trivial
theorem top.tw4258143625173308034 : True := trivial
theorem top.tw8566151710794823266 : True := trivial
theorem top.tw11263669390164206178 : True := trivial
theorem top.tw11620634932572840514 : True := trivial
theorem top.tw1016984595167383106 : True := trivial
theorem top.tw11315981696050747938 : True := trivial
theorem top.tw11153979150802330146 : True := trivial
theorem top.tw17545328352263074274 : True := trivial
theorem top.tw1291508964198565346 : True := trivial
theorem top.tw3767615275625035234 : True := trivial
theorem top.tw16441578918305252802 : True := trivial
theorem top.tw2670627174450433442 : True := trivial
theorem top.tw13922054642007902626 : True := trivial
theorem top.tw16580785732701462914 : True := trivial
theorem top.tw2972514686349903234 : True := trivial
theorem top.tw6756851087969907010 : True := trivial
theorem top.tw7314081408670574914 : True := trivial
theorem top.tw2531698151371588898 : True := trivial
theorem top.tw3217022616335106338 : True := trivial
theorem top.tw18404935858338921730 : True := trivial
theorem top.tw728428047077509346 : True := trivial
theorem top.tw14428541309147478210 : True := trivial
theorem top.tw5552270689369575618 : True := trivial
theorem top.tw2029088862249889922 : True := trivial
theorem top.tw4177254973167742082 : True := trivial
theorem top.tw4231656071295301730 : True := trivial
theorem top.tw16542083797698202722 : True := trivial
theorem top.tw11862920568910387298 : True := trivial
theorem top.tw15508944514630427714 : True := trivial
theorem top.tw2405475915293451298 : True := trivial
theorem top.tw5647976800219259906 : True := trivial
theorem top.tw4856909995586565122 : True := trivial
theorem top.tw9272544492142499777 : True := trivial
theorem top.tw5303079699428457377 : True := trivial
theorem top.tw10005945817407372193 : True := trivial
theorem top.tw3696473221133414273 : True := trivial
theorem top.tw462939625794472801 : True := trivial
theorem top.tw999761390096101185 : True := trivial
theorem top.tw9016798869158615873 : True := trivial
theorem top.tw1601500998369573665 : True := trivial
theorem top.tw10492560204800529185 : True := trivial
theorem top.tw1043701613660472097 : True := trivial
theorem top.tw11845233108574324481 : True := trivial
theorem top.tw15248220891095644897 : True := trivial
theorem top.tw11045010717311733409 : True := trivial
theorem top.tw12643520174271941249 : True := trivial
theorem top.tw6480638250107114081 : True := trivial
theorem top.tw11377482038585738817 : True := trivial
theorem top.tw8833944927944761889 : True := trivial
theorem top.tw15177526630643400193 : True := trivial
theorem top.tw13985988839938425345 : True := trivial
theorem top.tw13664746368384525793 : True := trivial
theorem top.tw7142760348513883617 : True := trivial
theorem top.tw11578502930711088577 : True := trivial
theorem top.tw10903130990627817921 : True := trivial
theorem top.tw18289109515434150305 : True := trivial
theorem top.tw15506382734810221985 : True := trivial
theorem top.tw1584292188352093569 : True := trivial
theorem top.tw4859757453598101857 : True := trivial
theorem top.tw443688265066261825 : True := trivial
theorem top.tw17104280840954017025 : True := trivial
theorem top.tw1068965626710143233 : True := trivial
theorem top.tw2770563814800254177 : True := trivial
theorem top.tw8507776931139520737 : True := trivial
theorem top.tw2896640688883821729 : True := trivial
theorem top.tw7213333562754528385 : True := trivial
theorem top.tw10892192912376451201 : True := trivial
theorem top.tw1400011881503588481 : True := trivial
theorem top.tw2529601377429677153 : True := trivial
theorem top.tw9953747333497923681 : True := trivial
theorem top.tw7761843605638006849 : True := trivial
theorem top.tw18236624570336363585 : True := trivial
theorem top.tw17795014544551873601 : True := trivial
theorem top.tw11168319343850128449 : True := trivial
theorem top.tw9666326922614434849 : True := trivial
theorem top.tw2847958352784047137 : True := trivial
theorem top.tw10947151441379659809 : True := trivial
theorem top.tw11613256710310857696 : True := trivial
theorem top.tw17953984050398360512 : True := trivial
theorem top.tw3764141193738528704 : True := trivial
theorem top.tw2424727229257130912 : True := trivial
theorem top.tw114735475811551136 : True := trivial
theorem top.tw16659674399394625376 : True := trivial
theorem top.tw8687831153774095200 : True := trivial
theorem top.tw16104615914030681952 : True := trivial
theorem top.tw4468942710605802240 : True := trivial
theorem top.tw3474246075231452896 : True := trivial
theorem top.tw7847650389618582240 : True := trivial
theorem top.tw16663787254893796032 : True := trivial
theorem top.tw1971433849790844608 : True := trivial
theorem top.tw7438316178485321408 : True := trivial
theorem top.tw6065713072024180384 : True := trivial
theorem top.tw1732150942055357024 : True := trivial
theorem top.tw2741389259953327712 : True := trivial
theorem top.tw76412952228603488 : True := trivial
theorem top.tw4597200072644226624 : True := trivial
theorem top.tw2417791160451022400 : True := trivial
theorem top.tw17861464445857800736 : True := trivial
theorem top.tw17009415399725018624 : True := trivial
theorem top.tw14168018189251442112 : True := trivial
theorem top.tw8722410040271553984 : True := trivial
theorem top.tw13223034962123697568 : True := trivial
theorem top.tw13160728816969591200 : True := trivial
theorem top.tw15542334942015070624 : True := trivial
theorem top.tw4154345032738424160 : True := trivial
theorem top.tw2218668502564051296 : True := trivial
theorem top.tw15491019914900986176 : True := trivial
theorem top.tw304654302220672320 : True := trivial
theorem top.tw13370185576492129568 : True := trivial
theorem top.tw15360274220829721888 : True := trivial
theorem top.tw984902984118615328 : True := trivial
theorem top.tw6432616177841060128 : True := trivial
theorem top.tw18194552166560175392 : True := trivial
theorem top.tw5472114250418208992 : True := trivial
theorem top.tw14142502885225118848 : True := trivial
theorem top.tw8069049012094873728 : True := trivial
theorem top.tw11582926029173025856 : True := trivial
theorem top.tw12701508533318811712 : True := trivial
theorem top.tw2601905985415302144 : True := trivial
theorem top.tw16270010749764531210 : True := trivial
theorem top.tw14090284624843534012 : True := trivial
theorem repInts {G : Led} : ∀ {vs : List Value} {ns : List Int}, IntsAre vs ns → RepAll G vs (ns.map .int)
  | _, _, .nil => .nil
  | _, _, .cons x t h => .cons (.int x t) (repInts h)
set_option Elab.async true in
set_option maxRecDepth 100000 in
set_option maxHeartbeats 8000000 in
theorem top : PySem.Challenge.rw_pd0202_01.Holds := by
  w_on
  o_law
  o_head (kHook Mine.kk.heap_1 [2, 3, 38, 40, 41, 43, 44, 45, 46, 48, 49, 51, 52, 53, 55, 56, 58, 59, 60, 62, 63, 65, 66, 67, 74, 76, 77, 79, 80, 81, 82, 83, 86, 93, 95, 96, 98, 99, 100, 102, 103, 105, 106, 107, 109, 110, 112, 113, 114, 115, 116, 119, 121, 122, 124, 125, 126, 128, 129, 131, 132, 133, 135, 136, 138, 139, 140, 142, 143, 145, 146, 147, 149, 150, 152, 153, 154, 156, 157, 159, 160, 161, 163, 164, 166, 167, 168, 171, 172, 176, 177, 178, 180, 181, 183, 184, 185, 187, 188, 190, 191, 192, 199, 200, 201, 202, 212, 214, 215, 217, 218, 219, 220, 221, 222, 223, 224, 227, 234, 235, 236, 239, 246, 247, 248, 251, 258, 259, 261, 262, 264, 265, 266, 268, 269, 271, 272, 273, 275, 276, 278, 279, 280, 282, 283, 285, 286, 287, 288, 290, 291, 293, 294, 295, 297, 298, 300, 301, 302, 304, 305, 307, 308, 309, 311, 312, 314, 315, 316, 318, 319, 321, 322, 323, 325, 326, 328, 329, 330, 332, 333, 335, 336, 337, 339, 340, 342, 343, 344, 346, 347, 349, 350, 351, 353, 354, 356, 357, 358, 360, 361, 363, 364, 365, 367, 368, 370, 371, 372, 374, 375, 377, 378, 379, 380, 382, 383, 385, 386, 387, 388, 390, 391, 393, 394, 395, 396, 398, 399, 401, 402, 403, 404, 406, 407, 409, 410, 411, 413, 414, 416, 417, 418, 420, 421, 423, 424, 425, 426, 428, 429, 431, 432, 433, 434, 436, 437, 439, 440, 441, 443, 444, 446, 447, 448, 450, 451, 453, 454, 455, 457, 458, 460, 461, 462, 464, 465, 467, 468, 469, 471, 472, 474, 475, 476, 477, 478, 481, 488, 489, 491, 492, 494, 495, 496, 498, 499, 501, 502, 503, 505, 506, 508, 509, 510, 512, 513, 515, 516, 517, 519, 520, 522, 523, 524, 526, 527, 529, 530, 531, 532, 534, 535, 537, 538, 539, 540, 542, 543, 545, 546, 547, 548, 550, 551, 553, 554, 555, 556, 558, 559, 561, 562, 563, 564, 566, 567, 569, 570, 571, 573, 574, 576, 577, 578, 580, 581, 583, 584, 585, 587, 588, 590, 591, 592, 594, 595, 597, 598, 599, 601, 602, 604, 605, 606, 608, 609, 611, 612, 613, 615, 616, 618, 619, 620, 622, 623, 625, 626, 627, 629, 630, 632, 633, 634, 636, 637, 639, 640, 641, 643, 644, 646, 647, 648, 649, 651, 652, 654, 655, 656, 657, 659, 660, 662, 663, 664, 665, 667, 668, 670, 671, 672, 673, 675, 676, 678, 679, 680, 681, 683, 684, 686, 687, 688, 690, 691, 693, 694, 695, 697, 698, 700, 701, 702, 704, 705, 707, 708, 709, 711, 712, 714, 715, 716, 718, 719, 721, 722, 723, 724, 725, 728, 730, 731, 733, 734, 735, 737, 738, 740, 741, 742, 744, 745, 747, 748, 749, 751, 752, 754, 755, 756, 758, 759, 761, 762, 763, 765, 766, 768, 769, 777, 778, 780, 781, 783, 784, 785, 787, 788, 790, 791, 792, 793, 795, 796, 798, 799, 800, 801, 803, 804, 806, 807, 808, 810, 811, 813, 814, 815, 817, 818, 820, 821, 822, 824, 825, 827, 828, 829, 831, 832, 834, 835, 836, 837, 839, 840, 842, 843, 844, 846, 847, 849, 850, 851, 853, 854, 856, 857, 858, 859, 860, 861, 862, 865, 866, 868, 869, 871, 872, 873, 874, 876, 877, 879, 880, 881, 883, 884, 886, 887, 888, 891, 892, 893, 895, 896, 898, 899, 900, 903, 904, 905, 907, 908, 910, 911, 912, 915, 916] (fun _ => by kernel_rfl))
  (case hw => w_witness2)
  intro w s₀ s₁ mg mb G Y fa o pm cd doc dV kV ho hd' hcd hD hmg hg args vals as hpre hlay hrd hwl hlo
  have KX := kIn_of Y
  clear Y hd' hcd hD
  refine Ground.open G ?_
  intro T B D TE TW
  clear G B D TE TW
  wrow_args hpre hlay hrd hwl hlo
  rename_i ns hs0 hl0 hl1 hr1 hl2 as1 as2 l vs as3 hlst ra wl rd hints rds hlen _
  have hlen : ns.length ≤ 63 := by lia
  let DD : Wd := ⟨PySem.Challenge.rw_pd0202_01.row.prog, w, s₁.heap, mg, mb, s₁.os⟩
  have fit : DD.Fit := ⟨⟨T.g, T.b, T.nolimit, T.builtins⟩, KX⟩
  have efa : fa = 916 := by
    have e := fit.glob (x := "law") (v := .ref 916) (by kernel_rfl)
    have e2 : mg "law" = some (.ref fa) := hmg
    have e3 : mg "law" = some (.ref 916) := e
    rw [e2] at e3
    cases e3
    rfl
  subst efa
  have co : Core DD (fun _ _ => False) (fun a o => s₁.heap.get? a = some o) [] s₁ :=
    ⟨fun a o h => h, fun a o h => h, fun a o h => h.elim, fun a o o' _ h => h, fun p hp => (nomatch hp), fun p hp => (nomatch hp), List.Pairwise.nil, fun p hp => (nomatch hp), hg, rfl⟩
  obtain ⟨ob, ho1, hc1, m1, hd1⟩ := hlst
  have rep : Rep (fun a o => s₁.heap.get? a = some o) (.ref l) (.list (ns.map .int)) := .list ho1 hc1 hd1 (repInts hints)
  refine law_spec (D := DD) (n := 0) (W := []) fit ns (by lia) (lawOk ns) callerA _ _ s₁ (.ref l) _ _ ⟨rfl, by decide, by decide⟩ rfl co rep fun G' v s' lg c' r => ?_
  cases r
  refine ⟨.inl ⟨_, _, [], rfl, fun _ => ?q1, .bool true, ?q2, fun _ => ⟨.nil, fun a ha => nomatch ha⟩⟩, OldK.of_keep fun b o e => c'.inn b o (lg b o e), c'.os, .of_eq c'.gens⟩
  case q1 => rfl
  case q2 => first | kernel_rfl | wrow_close
end
end Mine
theorem PySem.Challenge.cw_pd0202_01_holds : PySem.Challenge.rw_pd0202_01.Holds :=
  Mine.top
