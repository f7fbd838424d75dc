import JvmDerived
import JvmDerived.Pilot.@@N@@Statement
import JvmDerived.Pilot.@@N@@Code
set_option linter.unusedVariables false
set_option linter.unusedSimpArgs false
namespace Jvm.Pilot.@@N@@
open Jvm Jvm.ClassFile Sem Op Lib Jvm.Free Jvm.Stand Jvm.LawKit Jvm.RoadKit Bundle Jvm.Pilot.@@N@@.Jvm.D
/-! ## own layer: a walk goal by goal, over a world of objects that the law made itself -/
abbrev Desc : Type := (String × List (String × String × Value)) ⊕ (List Int32 ⊕ List Int64)
abbrev Wld : Type := List (Addr × Desc)
def Is (Z : State) (h : Heap) (a : Addr) : Desc → Prop
  | .inl o => Exa Z h a o.1 ∧ (∀ f ∈ o.2, Fld Z h a o.1 f.1 f.2.1 f.2.2) ∧ (o.2.map fun f => Jvm.RoadKit.slotOf Z o.1 f.1 f.2.1).Nodup
  | .inr (.inl vs) => ∃ cl : Cell, Arr Z h a cl .int ∧ cl.slots = (vs.map Value.int).toArray ∧ vs.length < 2 ^ 31
  | .inr (.inr vs) => ∃ cl : Cell, Arr Z h a cl .long ∧ cl.slots = (vs.map Value.long).toArray ∧ vs.length < 2 ^ 31
def World (Z : State) (n0 : Nat) (h : Heap) (W : Wld) : Prop := n0 ≤ h.size ∧ (W.map fun q => q.1).Nodup ∧ ∀ q ∈ W, n0 ≤ q.1 ∧ Is Z h q.1 q.2
section OwnFacts
variable {Z : State} {h h' : Heap} {a b : Addr} {d : Desc} {n0 sl i : Nat} {v : Value} {W : Wld}
theorem own_nodup {α : Type} {xs : List α} (N : xs.Nodup) {i j : Nat} {x : α} (h1 : xs[i]? = some x) (h2 : xs[j]? = some x) : i = j := by
  have hi := (List.getElem?_eq_some_iff.mp h1).1
  exact (List.getElem?_inj hi N).mp (h1.trans h2.symm)
theorem own_set_map {α β : Type} (f : α → β) {xs : List α} {i : Nat} {x y : α} (h1 : xs[i]? = some x) (e : f y = f x) : (xs.set i y).map f = xs.map f := by
  apply List.ext_getElem?
  intro k
  rw [List.getElem?_map, List.getElem?_map, List.getElem?_set]
  by_cases q : i = k
  · subst q
    obtain ⟨hlt, hx⟩ := List.getElem?_eq_some_iff.mp h1
    simp [hlt, hx, e]
  · simp [q]
theorem own_mem_set {α : Type} {xs : List α} {i : Nat} {y z : α} (hz : z ∈ xs.set i y) : z = y ∨ ∃ k, k ≠ i ∧ xs[k]? = some z := by
  obtain ⟨k, hk⟩ := List.mem_iff_getElem?.mp hz
  rw [List.getElem?_set] at hk
  by_cases q : i = k
  · subst q
    by_cases l : i < xs.length
    · simp [l] at hk; exact Or.inl hk.symm
    · simp [l] at hk
  · simp only [q, if_false] at hk
    exact Or.inr ⟨k, fun e => q e.symm, hk⟩
theorem Is.lt : ∀ {d : Desc}, Is Z h a d → a < h.size
  | .inl _, I => I.1.lt
  | .inr (.inl _), I => by obtain ⟨_, A, _⟩ := I; exact A.lt
  | .inr (.inr _), I => by obtain ⟨_, A, _⟩ := I; exact A.lt
theorem Is.ext (E : Ext h h') : ∀ {d : Desc}, Is Z h a d → Is Z h' a d
  | .inl _, I => ⟨I.1.ext E, fun f hf => (I.2.1 f hf).ext E, I.2.2⟩
  | .inr (.inl _), I => by obtain ⟨c, A, r⟩ := I; exact ⟨c, A.ext E, r⟩
  | .inr (.inr _), I => by obtain ⟨c, A, r⟩ := I; exact ⟨c, A.ext E, r⟩
theorem Is.other (K : Wr h h' b sl v) (q : a ≠ b) : ∀ {d : Desc}, Is Z h a d → Is Z h' a d
  | .inl _, I => ⟨I.1.wr K, fun f hf => (I.2.1 f hf).other K (Or.inl q), I.2.2⟩
  | .inr (.inl _), I => by obtain ⟨c, A, r⟩ := I; exact ⟨c, A.other K q, r⟩
  | .inr (.inr _), I => by obtain ⟨c, A, r⟩ := I; exact ⟨c, A.other K q, r⟩
theorem Is.put {C n t : String} {fs : List (String × String × Value)} {old : Value} {j : Nat} (K : Wr h h' a (Jvm.RoadKit.slotOf Z C n t) v) (I : Is Z h a (.inl (C, fs))) (hj : fs[j]? = some (n, t, old)) : Is Z h' a (.inl (C, fs.set j (n, t, v))) := by
  obtain ⟨E, Fs, P⟩ := I
  refine ⟨E.wr K, fun f hf => ?_, ?_⟩
  · rcases own_mem_set hf with rfl | ⟨k, q, hk⟩
    · exact (Fs _ (List.mem_of_getElem? hj)).same K
    · refine (Fs f (List.mem_of_getElem? hk)).other K (Or.inr fun e => q ?_)
      have h1 : (fs.map fun f => Jvm.RoadKit.slotOf Z C f.1 f.2.1)[k]? = some (Jvm.RoadKit.slotOf Z C f.1 f.2.1) := by rw [List.getElem?_map, hk]; rfl
      have h2 : (fs.map fun f => Jvm.RoadKit.slotOf Z C f.1 f.2.1)[j]? = some (Jvm.RoadKit.slotOf Z C f.1 f.2.1) := by rw [List.getElem?_map, hj, e]; rfl
      exact own_nodup P h1 h2
  · have := own_set_map (fun f : String × String × Value => Jvm.RoadKit.slotOf Z C f.1 f.2.1) (y := (n, t, v)) hj rfl
    show (List.map (fun f : String × String × Value => Jvm.RoadKit.slotOf Z C f.1 f.2.1) (fs.set j (n, t, v))).Nodup
    rw [this]; exact P
theorem own_size {vs : List Int32} {cl : Cell} (e : cl.slots = (vs.map Value.int).toArray) : cl.slots.size = vs.length := by rw [e]; simp
theorem own_sizeL {vs : List Int64} {cl : Cell} (e : cl.slots = (vs.map Value.long).toArray) : cl.slots.size = vs.length := by rw [e]; simp
theorem Is.setI {vs : List Int32} {k : Nat} {x : Int32} (K : Wr h h' a k (.int x)) (I : Is Z h a (.inr (.inl vs))) : Is Z h' a (.inr (.inl (vs.set k x))) := by
  obtain ⟨c, A, e, hl⟩ := I
  refine ⟨_, A.same K, ?_, by simpa using hl⟩
  show c.slots.setIfInBounds k (.int x) = _
  rw [e]; simp [List.map_set]
theorem Is.setJ {vs : List Int64} {k : Nat} {x : Int64} (K : Wr h h' a k (.long x)) (I : Is Z h a (.inr (.inr vs))) : Is Z h' a (.inr (.inr (vs.set k x))) := by
  obtain ⟨c, A, e, hl⟩ := I
  refine ⟨_, A.same K, ?_, by simpa using hl⟩
  show c.slots.setIfInBounds k (.long x) = _
  rw [e]; simp [List.map_set]
theorem World.get (D : World Z n0 h W) (hi : W[i]? = some (a, d)) : n0 ≤ a ∧ Is Z h a d := D.2.2 _ (List.mem_of_getElem? hi)
theorem World.upd {d' : Desc} (D : World Z n0 h W) (hi : W[i]? = some (a, d)) (K : Wr h h' a sl v) (I : Is Z h' a d') : World Z n0 h' (W.set i (a, d')) := by
  refine ⟨by rw [K.size]; exact D.1, ?_, fun q hq => ?_⟩
  · rw [own_set_map (fun q : Addr × Desc => q.1) (y := (a, d')) hi rfl]; exact D.2.1
  · rcases own_mem_set hq with rfl | ⟨k, ne, hk⟩
    · exact ⟨(D.get hi).1, I⟩
    · have hq' := D.2.2 q (List.mem_of_getElem? hk)
      refine ⟨hq'.1, hq'.2.other K fun e => ne ?_⟩
      have h1 : (W.map fun q => q.1)[k]? = some q.1 := by rw [List.getElem?_map, hk]; rfl
      have h2 : (W.map fun q => q.1)[i]? = some q.1 := by rw [List.getElem?_map, hi, e]; rfl
      exact own_nodup D.2.1 h1 h2
theorem World.add {d : Desc} (D : World Z n0 h W) (E : Ext h h') (I : Is Z h' h.size d) : World Z n0 h' (W ++ [(h.size, d)]) := by
  refine ⟨Nat.le_trans D.1 E.1, ?_, fun q hq => ?_⟩
  · rw [List.map_append, List.nodup_append]
    refine ⟨D.2.1, by simp, fun x hx y hy e => ?_⟩
    obtain ⟨q, hq, rfl⟩ := List.mem_map.mp hx
    simp only [List.map_cons, List.map_nil, List.mem_singleton] at hy
    have hlt := (D.2.2 q hq).2.lt
    subst hy
    exact absurd e (Nat.ne_of_lt hlt)
  · rcases List.mem_append.mp hq with hq | hq
    · exact ⟨(D.2.2 q hq).1, (D.2.2 q hq).2.ext E⟩
    · cases List.mem_singleton.mp hq
      exact ⟨D.1, I⟩
theorem World.ne {i j : Nat} {a b : Addr} {d d' : Desc} (D : World Z n0 h W) (hi : W[i]? = some (a, d)) (hj : W[j]? = some (b, d')) (q : i ≠ j) : a ≠ b := fun e => q (by
  have h1 : (W.map fun q => q.1)[i]? = some a := by rw [List.getElem?_map, hi]; rfl
  have h2 : (W.map fun q => q.1)[j]? = some a := by rw [List.getElem?_map, hj, e]; rfl
  exact own_nodup D.2.1 h1 h2)
end OwnFacts
/-- the fields of a new object, at their first values -/
def Lay (Z : State) (a0 : Array Value) (C : String) (fs : List (String × String × Value)) : Prop := ∀ f ∈ fs, Laid Z a0 C C f.1 f.2.1 ∧ ∃ ty, parseFieldDescriptor f.2.1 = some ty ∧ f.2.2 = defaultValue ty
theorem lay_nil {Z : State} {a0 : Array Value} {C : String} : Lay Z a0 C [] := fun _ q => nomatch q
theorem lay_cons {Z : State} {a0 : Array Value} {C n t : String} {v : Value} {ty : FieldType} {fs : List (String × String × Value)} (L : Laid Z a0 C C n t) (ht : parseFieldDescriptor t = some ty) (hv : v = defaultValue ty) (r : Lay Z a0 C fs) : Lay Z a0 C ((n, t, v) :: fs) := fun f hf => by
  rcases List.mem_cons.mp hf with rfl | hf
  · exact ⟨L, ty, ht, hv⟩
  · exact r f hf
theorem Lay.slots {Z : State} {a0 : Array Value} {C : String} : ∀ {fs : List (String × String × Value)}, Lay Z a0 C fs → (fs.map fun f => f.1).Nodup → (fs.map fun f => Jvm.RoadKit.slotOf Z C f.1 f.2.1).Nodup
  | [], _, _ => by simp
  | f :: fs, L, N => by
    simp only [List.map_cons, List.nodup_cons] at N ⊢
    refine ⟨fun hm => ?_, Lay.slots (fun g hg => L g (List.mem_cons_of_mem _ hg)) N.2⟩
    obtain ⟨g, hg, e⟩ := List.mem_map.mp hm
    obtain ⟨L1, t1, p1, -⟩ := L f (List.mem_cons_self ..)
    obtain ⟨L2, t2, p2, -⟩ := L g (List.mem_cons_of_mem _ hg)
    exact slot_ne L2 L1 (fun q => N.1 (q ▸ List.mem_map.mpr ⟨g, hg, rfl⟩)) p2 p1 e
abbrev Dyn : Type := Program × Env × State × MethodId × Array Value × List Frame × Method × Code
def Done (Z : State) (n0 : Nat) (s : State) (R : Room) (F : Option Value → Wld → Prop) (s₂ : State) (o : Outcome) : Prop := ∃ v L, o = .returned v ∧ (Fr n0 L ∧ ∃ W', World Z n0 s₂.heap W' ∧ F v W') ∧ FrameEnd s o s₂ L R.cells R.slots
def Go (l : Launch) (Z : State) (n0 : Nat) (R : Room) (code : ByteArray) (maxL : Nat) (y : MethodName) (ret : Option FieldType) (D : Dyn) (W : Wld) (cells slots pc : Nat) (ls : Array Slot) (st : List Value) (F : Option Value → Wld → Prop) : Prop :=
  match D with
  | (p, e, s, m, args, below, meth, c) => p.tables.exec = Jvm.exec → Z.Warmed39 s.vm → c.code = code → c.maxLocals = maxL → s.vm.findClass y.cls = some m.cls → meth.name = y.name → meth.sig.returnType = ret → meth.locks = false →
    ∀ T locs, Stand p l e R s m args below meth c T locs cells slots → Fr n0 locs → World Z n0 T.heap W → ∃ s₂ o, Steps p.tables e below (T.setTop (mkF m pc ls st)) s₂ ∧ s₂.status = .running ∧ Ended s₂ below o ∧ Done Z n0 s R F s₂ o
def Meets (l : Launch) (Z : State) (n0 : Nat) (y : MethodName) (bytes : ByteArray) (maxL : Nat) (ret : Option FieldType) (rm : Room) (ws : List Jvm.Cond) (as : Array Value) (W : Wld) (F : Option Value → Wld → Prop) : Prop :=
  ∀ h0 : Heap, World Z n0 h0 W → MetFree l y (head1 (Jvm.Cond.code y bytes maxL ret :: ws) rm) (fun a U => a = as ∧ Z.Warmed39 U.vm ∧ U.heap = h0) (fun _ _ _ _ _ => True) (fun _ U o U' => ∃ v L, o = .returned v ∧ (Fr n0 L ∧ ∃ W', World Z n0 U'.heap W' ∧ F v W') ∧ FrameEnd U o U' L rm.cells rm.slots)
theorem Meets.of_go {l : Launch} {Z : State} {n0 : Nat} {y : MethodName} {bytes : ByteArray} {maxL : Nat} {ret : Option FieldType} {rm : Room} {ws : List Jvm.Cond} {as : Array Value} {W : Wld} {F : Option Value → Wld → Prop} {ls : Array Slot} (hpl : plainFor y = true)
    (ef : ∀ m, entryFrame m as maxL = mkF m 0 ls []) (k : ∀ D, Go l Z n0 rm bytes maxL y ret D W 0 0 0 ls [] F) : Meets l Z n0 y bytes maxL ret rm ws as W F := by
  intro h0 Wd
  refine MetFree.of_bodySF hpl hisR ?_
  intro p e s m args below meth c s₁ Bd hml0 hP hK
  obtain ⟨rfl, hZ, hh⟩ := hP
  have e0 : s₁.heap = h0 := by rw [← hh, Bd.state]; rfl
  obtain ⟨s₂, o, h1, h2, h3, h4⟩ := k (p, e, s, m, _, below, meth, c) Bd.exec hZ Bd.bytes hml0 (findClass_of_methodNamed Bd.named) (name_of_methodNamed Bd.named Bd.method).1 Bd.returns Bd.notSynchronized s₁ [] (Stand.of_body Bd) (Fr.nil n0) (e0 ▸ Wd)
  exact ⟨s₂, o, castTop (ef m) h1, h2, h3, h4⟩
theorem Meets.mono {l : Launch} {Z : State} {n0 : Nat} {y : MethodName} {bytes : ByteArray} {maxL : Nat} {ret : Option FieldType} {rm : Room} {ws : List Jvm.Cond} {as : Array Value} {W : Wld} {F G : Option Value → Wld → Prop} (M : Meets l Z n0 y bytes maxL ret rm ws as W F) (q : ∀ v W', F v W' → G v W') : Meets l Z n0 y bytes maxL ret rm ws as W G := by
  intro h0 Wd p e a1 a2 a3 s m args below b1 b2 b3 b4
  obtain ⟨n, o, c1, c2, c3, v, L, d1, ⟨d2, W', d3, d4⟩, d5⟩ := M h0 Wd p e a1 a2 a3 s m args below b1 b2 b3 b4
  exact ⟨n, o, c1, c2, c3, v, L, d1, ⟨d2, W', d3, q _ _ d4⟩, d5⟩
section OwnSteps
variable {l : Launch} {Z : State} {n0 : Nat} {R : Room} {code : ByteArray} {maxL : Nat} {y : MethodName} {ret : Option FieldType} {D : Dyn} {W : Wld} {cells slots pc pc' : Nat} {ls ls' : Array Slot} {stk stk' : List Value} {F : Option Value → Wld → Prop} {a0 : Array Value}
theorem Go.plain (st : ∀ (p : Program) (e : Env) (s : State) (m : MethodId) (args : Array Value) (below : List Frame) (meth : Method) (c : Code) (T : State) (locs : List Loc), p.tables.exec = Jvm.exec → Z.Warmed39 s.vm → c.code = code → s.vm.findClass y.cls = some m.cls → Stand p l e R s m args below meth c T locs cells slots → World Z n0 T.heap W →
      ∀ target, Steps p.tables e below (T.setTop (mkF m pc' ls' stk')) target → Steps p.tables e below (T.setTop (mkF m pc ls stk)) target)
    (k : Go l Z n0 R code maxL y ret D W cells slots pc' ls' stk' F) : Go l Z n0 R code maxL y ret D W cells slots pc ls stk F := by
  obtain ⟨p, e, s, m, args, below, meth, c⟩ := D
  intro hx hZ hby hml hown hnm hret hlk T locs X N Wd
  obtain ⟨s₂, o, h1, h2⟩ := k hx hZ hby hml hown hnm hret hlk T locs X N Wd
  exact ⟨s₂, o, st p e s m args below meth c T locs hx hZ hby hown X Wd _ h1, h2⟩
theorem Go.val {r : Value} {rest : List Value} (k : Go l Z n0 R code maxL y ret D W cells slots pc ls (r :: rest) F) : Go l Z n0 R code maxL y ret D W cells slots pc ls ((some r).toList ++ rest) F := k
theorem Go.nov {rest : List Value} (k : Go l Z n0 R code maxL y ret D W cells slots pc ls rest F) : Go l Z n0 R code maxL y ret D W cells slots pc ls ((none : Option Value).toList ++ rest) F := k
/-! plain steps -/
theorem Go.iload {k : Nat} {v : Int32} (hd : decode code pc = .ok (.iload k, 2)) (hl : ls[k]? = some (.val (.int v))) (hp : pc + 2 = pc') (k : Go l Z n0 R code maxL y ret D W cells slots pc' ls (.int v :: stk) F) : Go l Z n0 R code maxL y ret D W cells slots pc ls stk F := by
  subst hp; exact Go.plain (fun p e s m args below meth c T locs hx hZ hby hown X Wd target h => XS.iload X.here hx rfl (hb hby hd) hl h) k
theorem Go.iloadN {k : Fin 4} {v : Int32} (hd : decode code pc = .ok (.iload_n k, 1)) (hl : ls[k.val]? = some (.val (.int v))) (hp : pc + 1 = pc') (k : Go l Z n0 R code maxL y ret D W cells slots pc' ls (.int v :: stk) F) : Go l Z n0 R code maxL y ret D W cells slots pc ls stk F := by
  subst hp; exact Go.plain (fun p e s m args below meth c T locs hx hZ hby hown X Wd target h => XS.iloadN X.here hx rfl (hb hby hd) hl h) k
theorem Go.istore {k : Nat} {v : Int32} (hd : decode code pc = .ok (.istore k, 2)) (hl : storeLocals ls k (.int v) = some ls') (hp : pc + 2 = pc') (k : Go l Z n0 R code maxL y ret D W cells slots pc' ls' stk F) : Go l Z n0 R code maxL y ret D W cells slots pc ls (.int v :: stk) F := by
  subst hp; exact Go.plain (fun p e s m args below meth c T locs hx hZ hby hown X Wd target h => XS.istore X.here hx rfl (hb hby hd) rfl hl h) k
theorem Go.istoreN {k : Fin 4} {v : Int32} (hd : decode code pc = .ok (.istore_n k, 1)) (hl : storeLocals ls k.val (.int v) = some ls') (hp : pc + 1 = pc') (k : Go l Z n0 R code maxL y ret D W cells slots pc' ls' stk F) : Go l Z n0 R code maxL y ret D W cells slots pc ls (.int v :: stk) F := by
  subst hp; exact Go.plain (fun p e s m args below meth c T locs hx hZ hby hown X Wd target h => XS.istoreN X.here hx rfl (hb hby hd) rfl hl h) k
theorem Go.lload {k : Nat} {v : Int64} (hd : decode code pc = .ok (.lload k, 2)) (hl : ls[k]? = some (.val (.long v))) (hp : pc + 2 = pc') (k : Go l Z n0 R code maxL y ret D W cells slots pc' ls (.long v :: stk) F) : Go l Z n0 R code maxL y ret D W cells slots pc ls stk F := by
  subst hp; exact Go.plain (fun p e s m args below meth c T locs hx hZ hby hown X Wd target h => XT.lload X.here hx rfl (hb hby hd) hl h) k
theorem Go.lloadN {k : Fin 4} {v : Int64} (hd : decode code pc = .ok (.lload_n k, 1)) (hl : ls[k.val]? = some (.val (.long v))) (hp : pc + 1 = pc') (k : Go l Z n0 R code maxL y ret D W cells slots pc' ls (.long v :: stk) F) : Go l Z n0 R code maxL y ret D W cells slots pc ls stk F := by
  subst hp; exact Go.plain (fun p e s m args below meth c T locs hx hZ hby hown X Wd target h => XT.lloadN X.here hx rfl (hb hby hd) hl h) k
theorem Go.lstore {k : Nat} {v : Int64} (hd : decode code pc = .ok (.lstore k, 2)) (hl : storeLocals ls k (.long v) = some ls') (hp : pc + 2 = pc') (k : Go l Z n0 R code maxL y ret D W cells slots pc' ls' stk F) : Go l Z n0 R code maxL y ret D W cells slots pc ls (.long v :: stk) F := by
  subst hp; exact Go.plain (fun p e s m args below meth c T locs hx hZ hby hown X Wd target h => XT.lstore X.here hx rfl (hb hby hd) rfl hl h) k
theorem Go.lstoreN {k : Fin 4} {v : Int64} (hd : decode code pc = .ok (.lstore_n k, 1)) (hl : storeLocals ls k.val (.long v) = some ls') (hp : pc + 1 = pc') (k : Go l Z n0 R code maxL y ret D W cells slots pc' ls' stk F) : Go l Z n0 R code maxL y ret D W cells slots pc ls (.long v :: stk) F := by
  subst hp; exact Go.plain (fun p e s m args below meth c T locs hx hZ hby hown X Wd target h => XT.lstoreN X.here hx rfl (hb hby hd) rfl hl h) k
theorem Go.aload {k : Nat} {v : Value} (hd : decode code pc = .ok (.aload k, 2)) (hl : ls[k]? = some (.val v)) (hv : v.isRef = true) (hp : pc + 2 = pc') (k : Go l Z n0 R code maxL y ret D W cells slots pc' ls (v :: stk) F) : Go l Z n0 R code maxL y ret D W cells slots pc ls stk F := by
  subst hp; exact Go.plain (fun p e s m args below meth c T locs hx hZ hby hown X Wd target h => XS.aload X.here hx rfl (hb hby hd) hl hv h) k
theorem Go.aloadN {k : Fin 4} {v : Value} (hd : decode code pc = .ok (.aload_n k, 1)) (hl : ls[k.val]? = some (.val v)) (hv : v.isRef = true) (hp : pc + 1 = pc') (k : Go l Z n0 R code maxL y ret D W cells slots pc' ls (v :: stk) F) : Go l Z n0 R code maxL y ret D W cells slots pc ls stk F := by
  subst hp; exact Go.plain (fun p e s m args below meth c T locs hx hZ hby hown X Wd target h => XS.aloadN X.here hx rfl (hb hby hd) hl hv h) k
theorem Go.astore {k : Nat} {v : Value} (hd : decode code pc = .ok (.astore k, 2)) (hv : v.isRef = true) (hl : storeLocals ls k v = some ls') (hp : pc + 2 = pc') (k : Go l Z n0 R code maxL y ret D W cells slots pc' ls' stk F) : Go l Z n0 R code maxL y ret D W cells slots pc ls (v :: stk) F := by
  subst hp; exact Go.plain (fun p e s m args below meth c T locs hx hZ hby hown X Wd target h => XS.astore X.here hx rfl (hb hby hd) rfl hv hl h) k
theorem Go.astoreN {k : Fin 4} {v : Value} (hd : decode code pc = .ok (.astore_n k, 1)) (hv : v.isRef = true) (hl : storeLocals ls k.val v = some ls') (hp : pc + 1 = pc') (k : Go l Z n0 R code maxL y ret D W cells slots pc' ls' stk F) : Go l Z n0 R code maxL y ret D W cells slots pc ls (v :: stk) F := by
  subst hp; exact Go.plain (fun p e s m args below meth c T locs hx hZ hby hown X Wd target h => XS.astoreN X.here hx rfl (hb hby hd) rfl hv hl h) k
theorem Go.iconst {i : Int} {v : Int32} (hd : decode code pc = .ok (.iconst i, 1)) (hv : Int32.ofInt i = v) (hp : pc + 1 = pc') (k : Go l Z n0 R code maxL y ret D W cells slots pc' ls (.int v :: stk) F) : Go l Z n0 R code maxL y ret D W cells slots pc ls stk F := by
  subst hp hv; exact Go.plain (fun p e s m args below meth c T locs hx hZ hby hown X Wd target h => XS.iconst X.here hx rfl (hb hby hd) h) k
theorem Go.bipush {i : Int} {v : Int32} (hd : decode code pc = .ok (.bipush i, 2)) (hv : (Int8.ofInt i).toInt32 = v) (hp : pc + 2 = pc') (k : Go l Z n0 R code maxL y ret D W cells slots pc' ls (.int v :: stk) F) : Go l Z n0 R code maxL y ret D W cells slots pc ls stk F := by
  subst hp hv; exact Go.plain (fun p e s m args below meth c T locs hx hZ hby hown X Wd target h => XS.bipush X.here hx rfl (hb hby hd) h) k
theorem Go.sipush {i : Int} {v : Int32} (hd : decode code pc = .ok (.sipush i, 3)) (hv : (Int16.ofInt i).toInt32 = v) (hp : pc + 3 = pc') (k : Go l Z n0 R code maxL y ret D W cells slots pc' ls (.int v :: stk) F) : Go l Z n0 R code maxL y ret D W cells slots pc ls stk F := by
  subst hp hv; exact Go.plain (fun p e s m args below meth c T locs hx hZ hby hown X Wd target h => XS.sipush X.here hx rfl (hb hby hd) h) k
theorem Go.lconst {i : Fin 2} {v : Int64} (hd : decode code pc = .ok (.lconst i, 1)) (hv : Int64.ofNat i = v) (hp : pc + 1 = pc') (k : Go l Z n0 R code maxL y ret D W cells slots pc' ls (.long v :: stk) F) : Go l Z n0 R code maxL y ret D W cells slots pc ls stk F := by
  subst hp hv; exact Go.plain (fun p e s m args below meth c T locs hx hZ hby hown X Wd target h => XT.lconst X.here hx rfl (hb hby hd) h) k
theorem Go.aconstNull  (hd : decode code pc = .ok (.aconst_null, 1)) (hp : pc + 1 = pc') (k : Go l Z n0 R code maxL y ret D W cells slots pc' ls (.null :: stk) F) : Go l Z n0 R code maxL y ret D W cells slots pc ls stk F := by
  subst hp; exact Go.plain (fun p e s m args below meth c T locs hx hZ hby hown X Wd target h => XS.aconstNull X.here hx rfl (hb hby hd) h) k
theorem Go.iadd {u v : Int32} (hd : decode code pc = .ok (.iadd, 1)) (hp : pc + 1 = pc') (k : Go l Z n0 R code maxL y ret D W cells slots pc' ls (.int (u + v) :: stk) F) : Go l Z n0 R code maxL y ret D W cells slots pc ls (.int v :: .int u :: stk) F := by
  subst hp; exact Go.plain (fun p e s m args below meth c T locs hx hZ hby hown X Wd target h => XS.iadd X.here hx rfl (hb hby hd) rfl h) k
theorem Go.ladd {u v : Int64} (hd : decode code pc = .ok (.ladd, 1)) (hp : pc + 1 = pc') (k : Go l Z n0 R code maxL y ret D W cells slots pc' ls (.long (u + v) :: stk) F) : Go l Z n0 R code maxL y ret D W cells slots pc ls (.long v :: .long u :: stk) F := by
  subst hp; exact Go.plain (fun p e s m args below meth c T locs hx hZ hby hown X Wd target h => XT.ladd X.here hx rfl (hb hby hd) rfl h) k
theorem Go.isub {u v : Int32} (hd : decode code pc = .ok (.isub, 1)) (hp : pc + 1 = pc') (k : Go l Z n0 R code maxL y ret D W cells slots pc' ls (.int (u - v) :: stk) F) : Go l Z n0 R code maxL y ret D W cells slots pc ls (.int v :: .int u :: stk) F := by
  subst hp; exact Go.plain (fun p e s m args below meth c T locs hx hZ hby hown X Wd target h => XS.isub X.here hx rfl (hb hby hd) rfl h) k
theorem Go.lsub {u v : Int64} (hd : decode code pc = .ok (.lsub, 1)) (hp : pc + 1 = pc') (k : Go l Z n0 R code maxL y ret D W cells slots pc' ls (.long (u - v) :: stk) F) : Go l Z n0 R code maxL y ret D W cells slots pc ls (.long v :: .long u :: stk) F := by
  subst hp; exact Go.plain (fun p e s m args below meth c T locs hx hZ hby hown X Wd target h => XT.lsub X.here hx rfl (hb hby hd) rfl h) k
theorem Go.imul {u v : Int32} (hd : decode code pc = .ok (.imul, 1)) (hp : pc + 1 = pc') (k : Go l Z n0 R code maxL y ret D W cells slots pc' ls (.int (u * v) :: stk) F) : Go l Z n0 R code maxL y ret D W cells slots pc ls (.int v :: .int u :: stk) F := by
  subst hp; exact Go.plain (fun p e s m args below meth c T locs hx hZ hby hown X Wd target h => XS.imul X.here hx rfl (hb hby hd) rfl h) k
theorem Go.lmul {u v : Int64} (hd : decode code pc = .ok (.lmul, 1)) (hp : pc + 1 = pc') (k : Go l Z n0 R code maxL y ret D W cells slots pc' ls (.long (u * v) :: stk) F) : Go l Z n0 R code maxL y ret D W cells slots pc ls (.long v :: .long u :: stk) F := by
  subst hp; exact Go.plain (fun p e s m args below meth c T locs hx hZ hby hown X Wd target h => XT.lmul X.here hx rfl (hb hby hd) rfl h) k
theorem Go.iand {u v : Int32} (hd : decode code pc = .ok (.iand, 1)) (hp : pc + 1 = pc') (k : Go l Z n0 R code maxL y ret D W cells slots pc' ls (.int (u &&& v) :: stk) F) : Go l Z n0 R code maxL y ret D W cells slots pc ls (.int v :: .int u :: stk) F := by
  subst hp; exact Go.plain (fun p e s m args below meth c T locs hx hZ hby hown X Wd target h => XS.iand X.here hx rfl (hb hby hd) rfl h) k
theorem Go.land {u v : Int64} (hd : decode code pc = .ok (.land, 1)) (hp : pc + 1 = pc') (k : Go l Z n0 R code maxL y ret D W cells slots pc' ls (.long (u &&& v) :: stk) F) : Go l Z n0 R code maxL y ret D W cells slots pc ls (.long v :: .long u :: stk) F := by
  subst hp; exact Go.plain (fun p e s m args below meth c T locs hx hZ hby hown X Wd target h => XT.land X.here hx rfl (hb hby hd) rfl h) k
theorem Go.ior {u v : Int32} (hd : decode code pc = .ok (.ior, 1)) (hp : pc + 1 = pc') (k : Go l Z n0 R code maxL y ret D W cells slots pc' ls (.int (u ||| v) :: stk) F) : Go l Z n0 R code maxL y ret D W cells slots pc ls (.int v :: .int u :: stk) F := by
  subst hp; exact Go.plain (fun p e s m args below meth c T locs hx hZ hby hown X Wd target h => XT.ior X.here hx rfl (hb hby hd) rfl h) k
theorem Go.lor {u v : Int64} (hd : decode code pc = .ok (.lor, 1)) (hp : pc + 1 = pc') (k : Go l Z n0 R code maxL y ret D W cells slots pc' ls (.long (u ||| v) :: stk) F) : Go l Z n0 R code maxL y ret D W cells slots pc ls (.long v :: .long u :: stk) F := by
  subst hp; exact Go.plain (fun p e s m args below meth c T locs hx hZ hby hown X Wd target h => XT.lor X.here hx rfl (hb hby hd) rfl h) k
theorem Go.ixor {u v : Int32} (hd : decode code pc = .ok (.ixor, 1)) (hp : pc + 1 = pc') (k : Go l Z n0 R code maxL y ret D W cells slots pc' ls (.int (u ^^^ v) :: stk) F) : Go l Z n0 R code maxL y ret D W cells slots pc ls (.int v :: .int u :: stk) F := by
  subst hp; exact Go.plain (fun p e s m args below meth c T locs hx hZ hby hown X Wd target h => XT.ixor X.here hx rfl (hb hby hd) rfl h) k
theorem Go.lxor {u v : Int64} (hd : decode code pc = .ok (.lxor, 1)) (hp : pc + 1 = pc') (k : Go l Z n0 R code maxL y ret D W cells slots pc' ls (.long (u ^^^ v) :: stk) F) : Go l Z n0 R code maxL y ret D W cells slots pc ls (.long v :: .long u :: stk) F := by
  subst hp; exact Go.plain (fun p e s m args below meth c T locs hx hZ hby hown X Wd target h => XT.lxor X.here hx rfl (hb hby hd) rfl h) k
theorem Go.ishl {u v : Int32} (hd : decode code pc = .ok (.ishl, 1)) (hp : pc + 1 = pc') (k : Go l Z n0 R code maxL y ret D W cells slots pc' ls (.int (u <<< (v &&& 31)) :: stk) F) : Go l Z n0 R code maxL y ret D W cells slots pc ls (.int v :: .int u :: stk) F := by
  subst hp; exact Go.plain (fun p e s m args below meth c T locs hx hZ hby hown X Wd target h => XT.ishl X.here hx rfl (hb hby hd) rfl h) k
theorem Go.ishr {u v : Int32} (hd : decode code pc = .ok (.ishr, 1)) (hp : pc + 1 = pc') (k : Go l Z n0 R code maxL y ret D W cells slots pc' ls (.int (u >>> (v &&& 31)) :: stk) F) : Go l Z n0 R code maxL y ret D W cells slots pc ls (.int v :: .int u :: stk) F := by
  subst hp; exact Go.plain (fun p e s m args below meth c T locs hx hZ hby hown X Wd target h => XT.ishr X.here hx rfl (hb hby hd) rfl h) k
theorem Go.iushr {u v : Int32} (hd : decode code pc = .ok (.iushr, 1)) (hp : pc + 1 = pc') (k : Go l Z n0 R code maxL y ret D W cells slots pc' ls (.int (XT.ushr u v) :: stk) F) : Go l Z n0 R code maxL y ret D W cells slots pc ls (.int v :: .int u :: stk) F := by
  subst hp; exact Go.plain (fun p e s m args below meth c T locs hx hZ hby hown X Wd target h => XT.iushr X.here hx rfl (hb hby hd) rfl h) k
theorem Go.lushr {u : Int64} {v : Int32} (hd : decode code pc = .ok (.lushr, 1)) (hp : pc + 1 = pc') (k : Go l Z n0 R code maxL y ret D W cells slots pc' ls (.long (XT.ushrL u v) :: stk) F) : Go l Z n0 R code maxL y ret D W cells slots pc ls (.int v :: .long u :: stk) F := by
  subst hp; exact Go.plain (fun p e s m args below meth c T locs hx hZ hby hown X Wd target h => XT.lushr X.here hx rfl (hb hby hd) rfl h) k
theorem Go.lshl {u : Int64} {v : Int32} (hd : decode code pc = .ok (.lshl, 1)) (hp : pc + 1 = pc') (k : Go l Z n0 R code maxL y ret D W cells slots pc' ls (.long (u <<< (v.toInt64 &&& 63)) :: stk) F) : Go l Z n0 R code maxL y ret D W cells slots pc ls (.int v :: .long u :: stk) F := by
  subst hp; exact Go.plain (fun p e s m args below meth c T locs hx hZ hby hown X Wd target h => XT.lshl X.here hx rfl (hb hby hd) rfl h) k
theorem Go.idiv {u v : Int32} (hd : decode code pc = .ok (.idiv, 1)) (hz : v ≠ 0) (hp : pc + 1 = pc') (k : Go l Z n0 R code maxL y ret D W cells slots pc' ls (.int (u / v) :: stk) F) : Go l Z n0 R code maxL y ret D W cells slots pc ls (.int v :: .int u :: stk) F := by
  subst hp; exact Go.plain (fun p e s m args below meth c T locs hx hZ hby hown X Wd target h => XS.idiv X.here hx rfl (hb hby hd) rfl hz h) k
theorem Go.irem {u v : Int32} (hd : decode code pc = .ok (.irem, 1)) (hz : v ≠ 0) (hp : pc + 1 = pc') (k : Go l Z n0 R code maxL y ret D W cells slots pc' ls (.int (u % v) :: stk) F) : Go l Z n0 R code maxL y ret D W cells slots pc ls (.int v :: .int u :: stk) F := by
  subst hp; exact Go.plain (fun p e s m args below meth c T locs hx hZ hby hown X Wd target h => iremM X hx rfl (hb hby hd) rfl hz h) k
theorem Go.ineg {u : Int32} (hd : decode code pc = .ok (.ineg, 1)) (hp : pc + 1 = pc') (k : Go l Z n0 R code maxL y ret D W cells slots pc' ls (.int (-u) :: stk) F) : Go l Z n0 R code maxL y ret D W cells slots pc ls (.int u :: stk) F := by
  subst hp; exact Go.plain (fun p e s m args below meth c T locs hx hZ hby hown X Wd target h => XS.ineg X.here hx rfl (hb hby hd) rfl h) k
theorem Go.lcmp {u v : Int64} (hd : decode code pc = .ok (.lcmp, 1)) (hp : pc + 1 = pc') (k : Go l Z n0 R code maxL y ret D W cells slots pc' ls (.int (XT.cmpL u v) :: stk) F) : Go l Z n0 R code maxL y ret D W cells slots pc ls (.long v :: .long u :: stk) F := by
  subst hp; exact Go.plain (fun p e s m args below meth c T locs hx hZ hby hown X Wd target h => XT.lcmp X.here hx rfl (hb hby hd) rfl h) k
theorem Go.i2l {u : Int32} (hd : decode code pc = .ok (.i2l, 1)) (hp : pc + 1 = pc') (k : Go l Z n0 R code maxL y ret D W cells slots pc' ls (.long u.toInt64 :: stk) F) : Go l Z n0 R code maxL y ret D W cells slots pc ls (.int u :: stk) F := by
  subst hp; exact Go.plain (fun p e s m args below meth c T locs hx hZ hby hown X Wd target h => XT.i2l X.here hx rfl (hb hby hd) rfl h) k
theorem Go.l2i {u : Int64} (hd : decode code pc = .ok (.l2i, 1)) (hp : pc + 1 = pc') (k : Go l Z n0 R code maxL y ret D W cells slots pc' ls (.int u.toInt32 :: stk) F) : Go l Z n0 R code maxL y ret D W cells slots pc ls (.long u :: stk) F := by
  subst hp; exact Go.plain (fun p e s m args below meth c T locs hx hZ hby hown X Wd target h => XT.l2i X.here hx rfl (hb hby hd) rfl h) k
theorem Go.i2c {u : Int32} (hd : decode code pc = .ok (.i2c, 1)) (hp : pc + 1 = pc') (k : Go l Z n0 R code maxL y ret D W cells slots pc' ls (.int u.toUInt32.toUInt16.toUInt32.toInt32 :: stk) F) : Go l Z n0 R code maxL y ret D W cells slots pc ls (.int u :: stk) F := by
  subst hp; exact Go.plain (fun p e s m args below meth c T locs hx hZ hby hown X Wd target h => XT.i2c X.here hx rfl (hb hby hd) rfl h) k
theorem Go.i2b {u : Int32} (hd : decode code pc = .ok (.i2b, 1)) (hp : pc + 1 = pc') (k : Go l Z n0 R code maxL y ret D W cells slots pc' ls (.int u.toInt8.toInt32 :: stk) F) : Go l Z n0 R code maxL y ret D W cells slots pc ls (.int u :: stk) F := by
  subst hp; exact Go.plain (fun p e s m args below meth c T locs hx hZ hby hown X Wd target h => XT.i2b X.here hx rfl (hb hby hd) rfl h) k
theorem Go.dup {u : Value} (hd : decode code pc = .ok (.dup, 1)) (hc : u.category = 1) (hp : pc + 1 = pc') (k : Go l Z n0 R code maxL y ret D W cells slots pc' ls (u :: u :: stk) F) : Go l Z n0 R code maxL y ret D W cells slots pc ls (u :: stk) F := by
  subst hp; exact Go.plain (fun p e s m args below meth c T locs hx hZ hby hown X Wd target h => XS.dup X.here hx rfl (hb hby hd) rfl hc h) k
theorem Go.pop {u : Value} (hd : decode code pc = .ok (.pop, 1)) (hc : u.category = 1) (hp : pc + 1 = pc') (k : Go l Z n0 R code maxL y ret D W cells slots pc' ls stk F) : Go l Z n0 R code maxL y ret D W cells slots pc ls (u :: stk) F := by
  subst hp; exact Go.plain (fun p e s m args below meth c T locs hx hZ hby hown X Wd target h => XT.pop X.here hx rfl (hb hby hd) rfl hc h) k
theorem Go.dupX1 {u v : Value} (hd : decode code pc = .ok (.dup_x1, 1)) (hc : u.category = 1) (hc' : v.category = 1) (hp : pc + 1 = pc') (k : Go l Z n0 R code maxL y ret D W cells slots pc' ls (u :: v :: u :: stk) F) : Go l Z n0 R code maxL y ret D W cells slots pc ls (u :: v :: stk) F := by
  subst hp; exact Go.plain (fun p e s m args below meth c T locs hx hZ hby hown X Wd target h => XT.dupX1 X.here hx rfl (hb hby hd) rfl hc hc' h) k
theorem Go.dup2 {u v : Value} (hd : decode code pc = .ok (.dup2, 1)) (hc : u.category = 1) (hc' : v.category = 1) (hp : pc + 1 = pc') (k : Go l Z n0 R code maxL y ret D W cells slots pc' ls (u :: v :: u :: v :: stk) F) : Go l Z n0 R code maxL y ret D W cells slots pc ls (u :: v :: stk) F := by
  subst hp; exact Go.plain (fun p e s m args below meth c T locs hx hZ hby hown X Wd target h => XT.dup2 X.here hx rfl (hb hby hd) rfl hc hc' h) k
theorem Go.iinc {k : Nat} {i : Int} {x z : Int32} (hd : decode code pc = .ok (.iinc k i, 3)) (hl : ls[k]? = some (.val (.int x))) (hi : Int32.ofInt i = z) (hl' : storeLocals ls k (.int (x + z)) = some ls') (hp : pc + 3 = pc') (k : Go l Z n0 R code maxL y ret D W cells slots pc' ls' stk F) : Go l Z n0 R code maxL y ret D W cells slots pc ls stk F := by
  subst hp hi; exact Go.plain (fun p e s m args below meth c T locs hx hZ hby hown X Wd target h => XS.iinc X.here hx rfl (hb hby hd) hl hl' h) k
theorem Go.goto {o : Int} (hd : decode code pc = .ok (.goto o, 3)) (ho : 0 ≤ (pc : Int) + o) (hp : ((pc : Int) + o).toNat = pc') (k : Go l Z n0 R code maxL y ret D W cells slots pc' ls stk F) : Go l Z n0 R code maxL y ret D W cells slots pc ls stk F :=
  Go.plain (fun p e s m args below meth c T locs hx hZ hby hown X Wd target h => XS.goto X.here hx rfl rfl (hb hby hd) ho hp h) k
theorem Go.if_lt {o : Int} {u : Int32} {pcY pcN : Nat} (hd : decode code pc = .ok (.ifCond .lt o, 3)) (ho : 0 ≤ (pc : Int) + o) (hp : ((pc : Int) + o).toNat = pcY) (hq : pc + 3 = pcN) (ky : u < (0 : Int32) → Go l Z n0 R code maxL y ret D W cells slots pcY ls stk F) (kn : ¬ u < (0 : Int32) → Go l Z n0 R code maxL y ret D W cells slots pcN ls stk F) : Go l Z n0 R code maxL y ret D W cells slots pc ls (.int u :: stk) F := by
  subst hq
  by_cases q : u < (0 : Int32)
  · exact Go.plain (fun p e s m args below meth c T locs hx hZ hby hown X Wd target h => XS.ifYes X.here hx rfl rfl (hb hby hd) rfl ((if0 _ _).trans (tlt q).1) ho hp h) (ky q)
  · exact Go.plain (fun p e s m args below meth c T locs hx hZ hby hown X Wd target h => XS.ifNo X.here hx rfl (hb hby hd) rfl ((if0 _ _).trans (flt q).1) h) (kn q)
theorem Go.icmp_lt {o : Int} {u v : Int32} {pcY pcN : Nat} (hd : decode code pc = .ok (.if_icmp .lt o, 3)) (ho : 0 ≤ (pc : Int) + o) (hp : ((pc : Int) + o).toNat = pcY) (hq : pc + 3 = pcN) (ky : u < v → Go l Z n0 R code maxL y ret D W cells slots pcY ls stk F) (kn : ¬ u < v → Go l Z n0 R code maxL y ret D W cells slots pcN ls stk F) : Go l Z n0 R code maxL y ret D W cells slots pc ls (.int v :: .int u :: stk) F := by
  subst hq
  by_cases q : u < v
  · exact Go.plain (fun p e s m args below meth c T locs hx hZ hby hown X Wd target h => XS.icmpYes X.here hx rfl rfl (hb hby hd) rfl (tlt q).1 ho hp h) (ky q)
  · exact Go.plain (fun p e s m args below meth c T locs hx hZ hby hown X Wd target h => XS.icmpNo X.here hx rfl (hb hby hd) rfl (flt q).1 h) (kn q)
theorem Go.if_ge {o : Int} {u : Int32} {pcY pcN : Nat} (hd : decode code pc = .ok (.ifCond .ge o, 3)) (ho : 0 ≤ (pc : Int) + o) (hp : ((pc : Int) + o).toNat = pcY) (hq : pc + 3 = pcN) (ky : ¬ u < (0 : Int32) → Go l Z n0 R code maxL y ret D W cells slots pcY ls stk F) (kn : u < (0 : Int32) → Go l Z n0 R code maxL y ret D W cells slots pcN ls stk F) : Go l Z n0 R code maxL y ret D W cells slots pc ls (.int u :: stk) F := by
  subst hq
  by_cases q : u < (0 : Int32)
  · exact Go.plain (fun p e s m args below meth c T locs hx hZ hby hown X Wd target h => XS.ifNo X.here hx rfl (hb hby hd) rfl ((if0 _ _).trans (tlt q).2.1) h) (kn q)
  · exact Go.plain (fun p e s m args below meth c T locs hx hZ hby hown X Wd target h => XS.ifYes X.here hx rfl rfl (hb hby hd) rfl ((if0 _ _).trans (flt q).2.1) ho hp h) (ky q)
theorem Go.icmp_ge {o : Int} {u v : Int32} {pcY pcN : Nat} (hd : decode code pc = .ok (.if_icmp .ge o, 3)) (ho : 0 ≤ (pc : Int) + o) (hp : ((pc : Int) + o).toNat = pcY) (hq : pc + 3 = pcN) (ky : ¬ u < v → Go l Z n0 R code maxL y ret D W cells slots pcY ls stk F) (kn : u < v → Go l Z n0 R code maxL y ret D W cells slots pcN ls stk F) : Go l Z n0 R code maxL y ret D W cells slots pc ls (.int v :: .int u :: stk) F := by
  subst hq
  by_cases q : u < v
  · exact Go.plain (fun p e s m args below meth c T locs hx hZ hby hown X Wd target h => XS.icmpNo X.here hx rfl (hb hby hd) rfl (tlt q).2.1 h) (kn q)
  · exact Go.plain (fun p e s m args below meth c T locs hx hZ hby hown X Wd target h => XS.icmpYes X.here hx rfl rfl (hb hby hd) rfl (flt q).2.1 ho hp h) (ky q)
theorem Go.if_gt {o : Int} {u : Int32} {pcY pcN : Nat} (hd : decode code pc = .ok (.ifCond .gt o, 3)) (ho : 0 ≤ (pc : Int) + o) (hp : ((pc : Int) + o).toNat = pcY) (hq : pc + 3 = pcN) (ky : (0 : Int32) < u → Go l Z n0 R code maxL y ret D W cells slots pcY ls stk F) (kn : ¬ (0 : Int32) < u → Go l Z n0 R code maxL y ret D W cells slots pcN ls stk F) : Go l Z n0 R code maxL y ret D W cells slots pc ls (.int u :: stk) F := by
  subst hq
  by_cases q : (0 : Int32) < u
  · exact Go.plain (fun p e s m args below meth c T locs hx hZ hby hown X Wd target h => XS.ifYes X.here hx rfl rfl (hb hby hd) rfl ((if0 _ _).trans (tlt q).2.2.1) ho hp h) (ky q)
  · exact Go.plain (fun p e s m args below meth c T locs hx hZ hby hown X Wd target h => XS.ifNo X.here hx rfl (hb hby hd) rfl ((if0 _ _).trans (flt q).2.2.1) h) (kn q)
theorem Go.icmp_gt {o : Int} {u v : Int32} {pcY pcN : Nat} (hd : decode code pc = .ok (.if_icmp .gt o, 3)) (ho : 0 ≤ (pc : Int) + o) (hp : ((pc : Int) + o).toNat = pcY) (hq : pc + 3 = pcN) (ky : v < u → Go l Z n0 R code maxL y ret D W cells slots pcY ls stk F) (kn : ¬ v < u → Go l Z n0 R code maxL y ret D W cells slots pcN ls stk F) : Go l Z n0 R code maxL y ret D W cells slots pc ls (.int v :: .int u :: stk) F := by
  subst hq
  by_cases q : v < u
  · exact Go.plain (fun p e s m args below meth c T locs hx hZ hby hown X Wd target h => XS.icmpYes X.here hx rfl rfl (hb hby hd) rfl (tlt q).2.2.1 ho hp h) (ky q)
  · exact Go.plain (fun p e s m args below meth c T locs hx hZ hby hown X Wd target h => XS.icmpNo X.here hx rfl (hb hby hd) rfl (flt q).2.2.1 h) (kn q)
theorem Go.if_le {o : Int} {u : Int32} {pcY pcN : Nat} (hd : decode code pc = .ok (.ifCond .le o, 3)) (ho : 0 ≤ (pc : Int) + o) (hp : ((pc : Int) + o).toNat = pcY) (hq : pc + 3 = pcN) (ky : ¬ (0 : Int32) < u → Go l Z n0 R code maxL y ret D W cells slots pcY ls stk F) (kn : (0 : Int32) < u → Go l Z n0 R code maxL y ret D W cells slots pcN ls stk F) : Go l Z n0 R code maxL y ret D W cells slots pc ls (.int u :: stk) F := by
  subst hq
  by_cases q : (0 : Int32) < u
  · exact Go.plain (fun p e s m args below meth c T locs hx hZ hby hown X Wd target h => XS.ifNo X.here hx rfl (hb hby hd) rfl ((if0 _ _).trans (tlt q).2.2.2) h) (kn q)
  · exact Go.plain (fun p e s m args below meth c T locs hx hZ hby hown X Wd target h => XS.ifYes X.here hx rfl rfl (hb hby hd) rfl ((if0 _ _).trans (flt q).2.2.2) ho hp h) (ky q)
theorem Go.icmp_le {o : Int} {u v : Int32} {pcY pcN : Nat} (hd : decode code pc = .ok (.if_icmp .le o, 3)) (ho : 0 ≤ (pc : Int) + o) (hp : ((pc : Int) + o).toNat = pcY) (hq : pc + 3 = pcN) (ky : ¬ v < u → Go l Z n0 R code maxL y ret D W cells slots pcY ls stk F) (kn : v < u → Go l Z n0 R code maxL y ret D W cells slots pcN ls stk F) : Go l Z n0 R code maxL y ret D W cells slots pc ls (.int v :: .int u :: stk) F := by
  subst hq
  by_cases q : v < u
  · exact Go.plain (fun p e s m args below meth c T locs hx hZ hby hown X Wd target h => XS.icmpNo X.here hx rfl (hb hby hd) rfl (tlt q).2.2.2 h) (kn q)
  · exact Go.plain (fun p e s m args below meth c T locs hx hZ hby hown X Wd target h => XS.icmpYes X.here hx rfl rfl (hb hby hd) rfl (flt q).2.2.2 ho hp h) (ky q)
theorem Go.if_eq {o : Int} {u : Int32} {pcY pcN : Nat} (hd : decode code pc = .ok (.ifCond .eq o, 3)) (ho : 0 ≤ (pc : Int) + o) (hp : ((pc : Int) + o).toNat = pcY) (hq : pc + 3 = pcN) (ky : u = (0 : Int32) → Go l Z n0 R code maxL y ret D W cells slots pcY ls stk F) (kn : ¬ u = (0 : Int32) → Go l Z n0 R code maxL y ret D W cells slots pcN ls stk F) : Go l Z n0 R code maxL y ret D W cells slots pc ls (.int u :: stk) F := by
  subst hq
  by_cases q : u = (0 : Int32)
  · exact Go.plain (fun p e s m args below meth c T locs hx hZ hby hown X Wd target h => XS.ifYes X.here hx rfl rfl (hb hby hd) rfl ((if0 _ _).trans (teq q).1) ho hp h) (ky q)
  · exact Go.plain (fun p e s m args below meth c T locs hx hZ hby hown X Wd target h => XS.ifNo X.here hx rfl (hb hby hd) rfl ((if0 _ _).trans (feq q).1) h) (kn q)
theorem Go.icmp_eq {o : Int} {u v : Int32} {pcY pcN : Nat} (hd : decode code pc = .ok (.if_icmp .eq o, 3)) (ho : 0 ≤ (pc : Int) + o) (hp : ((pc : Int) + o).toNat = pcY) (hq : pc + 3 = pcN) (ky : u = v → Go l Z n0 R code maxL y ret D W cells slots pcY ls stk F) (kn : ¬ u = v → Go l Z n0 R code maxL y ret D W cells slots pcN ls stk F) : Go l Z n0 R code maxL y ret D W cells slots pc ls (.int v :: .int u :: stk) F := by
  subst hq
  by_cases q : u = v
  · exact Go.plain (fun p e s m args below meth c T locs hx hZ hby hown X Wd target h => XS.icmpYes X.here hx rfl rfl (hb hby hd) rfl (teq q).1 ho hp h) (ky q)
  · exact Go.plain (fun p e s m args below meth c T locs hx hZ hby hown X Wd target h => XS.icmpNo X.here hx rfl (hb hby hd) rfl (feq q).1 h) (kn q)
theorem Go.if_ne {o : Int} {u : Int32} {pcY pcN : Nat} (hd : decode code pc = .ok (.ifCond .ne o, 3)) (ho : 0 ≤ (pc : Int) + o) (hp : ((pc : Int) + o).toNat = pcY) (hq : pc + 3 = pcN) (ky : ¬ u = (0 : Int32) → Go l Z n0 R code maxL y ret D W cells slots pcY ls stk F) (kn : u = (0 : Int32) → Go l Z n0 R code maxL y ret D W cells slots pcN ls stk F) : Go l Z n0 R code maxL y ret D W cells slots pc ls (.int u :: stk) F := by
  subst hq
  by_cases q : u = (0 : Int32)
  · exact Go.plain (fun p e s m args below meth c T locs hx hZ hby hown X Wd target h => XS.ifNo X.here hx rfl (hb hby hd) rfl ((if0 _ _).trans (teq q).2) h) (kn q)
  · exact Go.plain (fun p e s m args below meth c T locs hx hZ hby hown X Wd target h => XS.ifYes X.here hx rfl rfl (hb hby hd) rfl ((if0 _ _).trans (feq q).2) ho hp h) (ky q)
theorem Go.icmp_ne {o : Int} {u v : Int32} {pcY pcN : Nat} (hd : decode code pc = .ok (.if_icmp .ne o, 3)) (ho : 0 ≤ (pc : Int) + o) (hp : ((pc : Int) + o).toNat = pcY) (hq : pc + 3 = pcN) (ky : ¬ u = v → Go l Z n0 R code maxL y ret D W cells slots pcY ls stk F) (kn : u = v → Go l Z n0 R code maxL y ret D W cells slots pcN ls stk F) : Go l Z n0 R code maxL y ret D W cells slots pc ls (.int v :: .int u :: stk) F := by
  subst hq
  by_cases q : u = v
  · exact Go.plain (fun p e s m args below meth c T locs hx hZ hby hown X Wd target h => XS.icmpNo X.here hx rfl (hb hby hd) rfl (teq q).2 h) (kn q)
  · exact Go.plain (fun p e s m args below meth c T locs hx hZ hby hown X Wd target h => XS.icmpYes X.here hx rfl rfl (hb hby hd) rfl (feq q).2 ho hp h) (ky q)
theorem Go.ifnullY {o : Int} (hd : decode code pc = .ok (.ifnull o, 3)) (ho : 0 ≤ (pc : Int) + o) (hp : ((pc : Int) + o).toNat = pc') (k : Go l Z n0 R code maxL y ret D W cells slots pc' ls stk F) : Go l Z n0 R code maxL y ret D W cells slots pc ls (.null :: stk) F :=
  Go.plain (fun p e s m args below meth c T locs hx hZ hby hown X Wd target h => XS.ifnullYes X.here hx rfl rfl (hb hby hd) rfl ho hp h) k
theorem Go.ifnullN {o : Int} {a : Addr} (hd : decode code pc = .ok (.ifnull o, 3)) (hp : pc + 3 = pc') (k : Go l Z n0 R code maxL y ret D W cells slots pc' ls stk F) : Go l Z n0 R code maxL y ret D W cells slots pc ls (.ref a :: stk) F := by
  subst hp; exact Go.plain (fun p e s m args below meth c T locs hx hZ hby hown X Wd target h => XS.ifnullNo X.here hx rfl (hb hby hd) rfl h) k
theorem Go.ifnonnullY {o : Int} {a : Addr} (hd : decode code pc = .ok (.ifnonnull o, 3)) (ho : 0 ≤ (pc : Int) + o) (hp : ((pc : Int) + o).toNat = pc') (k : Go l Z n0 R code maxL y ret D W cells slots pc' ls stk F) : Go l Z n0 R code maxL y ret D W cells slots pc ls (.ref a :: stk) F :=
  Go.plain (fun p e s m args below meth c T locs hx hZ hby hown X Wd target h => XT.ifnonnullYes X.here hx rfl rfl (hb hby hd) rfl ho hp h) k
theorem Go.ifnonnullN {o : Int} (hd : decode code pc = .ok (.ifnonnull o, 3)) (hp : pc + 3 = pc') (k : Go l Z n0 R code maxL y ret D W cells slots pc' ls stk F) : Go l Z n0 R code maxL y ret D W cells slots pc ls (.null :: stk) F := by
  subst hp; exact Go.plain (fun p e s m args below meth c T locs hx hZ hby hown X Wd target h => XT.ifnonnullNo X.here hx rfl (hb hby hd) rfl h) k
theorem Go.ldcI {idx : Nat} {v : Int32} (hd : decode code pc = .ok (.ldc idx, 2)) (w : (Jvm.Cond.constant y.cls idx v).before a0 Z = true) (hp : pc + 2 = pc') (k : Go l Z n0 R code maxL y ret D W cells slots pc' ls (.int v :: stk) F) : Go l Z n0 R code maxL y ret D W cells slots pc ls stk F := by
  subst hp; exact Go.plain (fun p e s m args below meth c T locs hx hZ hby hown X Wd target h => X.ldcInt hx hown (mvT hZ w) (g := mkF m pc ls stk) rfl (hb hby hd) target h) k
theorem Go.ldcL {idx : Nat} {v : Int64} (hd : decode code pc = .ok (.ldc2_w idx, 3)) (w : (Jvm.Cond.constantLong y.cls idx v).before a0 Z = true) (hp : pc + 3 = pc') (k : Go l Z n0 R code maxL y ret D W cells slots pc' ls (.long v :: stk) F) : Go l Z n0 R code maxL y ret D W cells slots pc ls stk F := by
  subst hp; exact Go.plain (fun p e s m args below meth c T locs hx hZ hby hown X Wd target h => X.ldc2Long hx hown (mvT hZ w) (g := mkF m pc ls stk) rfl (hb hby hd) target h) k
theorem Go.getF {idx i j : Nat} {C n t host : String} {a : Addr} {fs : List (String × String × Value)} {v : Value} (hd : decode code pc = .ok (.getfield idx, 3)) (w : (Jvm.Cond.fieldLink y.cls idx C n t).before a0 Z = true ∨ (Jvm.Cond.fieldLinkNest y.cls idx C n t host).before a0 Z = true) (hi : W[i]? = some (a, .inl (C, fs))) (hj : fs[j]? = some (n, t, v)) (hp : pc + 3 = pc')
    (k : Go l Z n0 R code maxL y ret D W cells slots pc' ls (v :: stk) F) : Go l Z n0 R code maxL y ret D W cells slots pc ls (.ref a :: stk) F := by
  subst hp
  obtain ⟨p, e, s, m, args, below, meth, c⟩ := D
  intro hx hZ hby hml hown hnm hret hlk T locs X N Wd
  obtain ⟨T', X', e', st⟩ := getF X hx hZ hown w Via.refl rfl ((Wd.get hi).2.2.1 _ (List.mem_of_getElem? hj)) (g := mkF m pc ls (.ref a :: stk)) rfl rfl (hb hby hd)
  obtain ⟨s₂, o, h1, h2⟩ := k hx hZ hby hml hown hnm hret hlk T' locs X' N (e' ▸ Wd)
  exact ⟨s₂, o, st _ h1, h2⟩
theorem own_in {j : Int32} {k n : Nat} (hj : ¬ j < 0) (hk : j.toNatClampNeg < n) (e : k = n) : ¬ (j < 0 ∨ k ≤ j.toNatClampNeg) := by
  rintro (q | q)
  · exact hj q
  · omega
theorem Go.initO {idx W1 : Nat} {a : Addr} (hd : decode code pc = .ok (.invokespecial idx, 3)) (w1 : (Jvm.Cond.methodLink y.cls idx Lib.objectInit).before a0 Z = true) (w2 : (Jvm.Cond.instanceMethod Lib.objectInit).before a0 Z = true) (w3 : (Jvm.Cond.code Lib.objectInit ⟨#[0xb1]⟩ 1 none).before a0 Z = true) (hsz : ls.size = maxL) (hf : 1 ≤ R.frames) (hW1 : (stk.map fun v => v.category).sum ≤ W1) (hl : W1 + 12 ≤ R.locals) (hp : pc + 3 = pc')
    (k : Go l Z n0 R code maxL y ret D W cells slots pc' ls stk F) : Go l Z n0 R code maxL y ret D W cells slots pc ls (.ref a :: stk) F := by
  subst hp
  obtain ⟨p, e, s, m, args, below, meth, c⟩ := D
  intro hx hZ hby hml hown hnm hret hlk T locs X N Wd
  obtain ⟨T', X', e', st⟩ := initO X hx hZ hown w1 w2 w3 rfl (g := mkF m pc ls (.ref a :: stk)) rfl (hsz.trans hml.symm) rfl (hb hby hd) hf (W := W1) (by show 2 * 0 + _ ≤ _; omega) hl
  obtain ⟨s₂, o, h1, h2⟩ := k hx hZ hby hml hown hnm hret hlk T' _ X' N (e' ▸ Wd)
  exact ⟨s₂, o, st _ h1, h2⟩
/-! calls by contract -/
theorem Go.callS {idx W1 cells' slots' maxL' : Nat} {y' : MethodName} {bytes' : ByteArray} {ret' : Option FieldType} {rm : Room} {argsL rest : List Value} {F' : Option Value → Wld → Prop} (hd : decode code pc = .ok (.invokestatic idx, 3)) (w1 : (Jvm.Cond.methodLink y.cls idx y').before a0 Z = true) (w2 : (Jvm.Cond.static y').before a0 Z = true) (w3 : (Jvm.Cond.initialized y'.cls).before a0 Z = true) (w4 : (Jvm.Cond.code y' bytes' maxL' ret').before a0 Z = true)
    (hy : y'.cls ≠ "java/lang/invoke/MethodHandle" ∧ y'.cls ≠ "java/lang/invoke/VarHandle") (M : Meets l Z n0 y' bytes' maxL' ret' rm [] argsL.toArray W F') (hfr : rm.frames + 1 ≤ R.frames) (hlo : W1 + (maxL' + 11) + rm.locals ≤ R.locals) (hsz : ls.size = maxL) (hlen : ∀ sig, parseMethodDescriptor y'.desc = some sig → argsL.length = sig.parameters.length) (hst : stk = argsL.reverse ++ rest) (hW1 : (rest.map fun v => v.category).sum ≤ W1)
    (hcells : cells + rm.cells ≤ R.cells) (hslots : slots + rm.slots ≤ R.slots) (ec : cells + rm.cells = cells') (es : slots + rm.slots = slots') (hp : pc + 3 = pc') (k : ∀ v W', F' v W' → Go l Z n0 R code maxL y ret D W' cells' slots' pc' ls (v.toList ++ rest) F) : Go l Z n0 R code maxL y ret D W cells slots pc ls stk F := by
  subst hp ec es
  obtain ⟨p, e, s, m, args, below, meth, c⟩ := D
  intro hx hZ hby hml hown hnm hret hlk T locs X N Wd
  obtain ⟨v, _, ⟨T', L', k', n'⟩, -, X', ⟨Lc, ⟨hFr, W', hWd, hF⟩, l1, y1, z1⟩, st⟩ := Jvm.LawKit.callS X hx hown (mvT hZ w1) (mvT hZ w2) (mvT hZ w3) (mvT hZ w4) hy (backOf (W := W1) (h := T.heap) (Q := fun v h L => Fr n0 L ∧ ∃ W', World Z n0 h W' ∧ F' v W') (M T.heap Wd) hZ w4 w3 hfr hlo) (g := mkF m pc ls stk) rfl (hsz.trans hml.symm) hlen hst (by show 2 * 0 + _ ≤ _; omega) (hb hby hd) (fun _ _ => ⟨rfl, rfl, hcells, hslots⟩)
  dsimp only [Pt.U, Pt.locs, Pt.cells, Pt.slots] at X' l1 y1 z1 st hWd
  subst l1 y1 z1
  obtain ⟨s₂, o, h1, h2⟩ := k v W' hF hx hZ hby hml hown hnm hret hlk T' _ X' (Fr.app N hFr) hWd
  exact ⟨s₂, o, st _ h1, h2⟩
theorem Go.callI {idx W1 cells' slots' maxL' : Nat} {y' : MethodName} {bytes' : ByteArray} {rm : Room} {a : Addr} {argsL rest : List Value} {F' : Option Value → Wld → Prop} (hd : decode code pc = .ok (.invokespecial idx, 3)) (hy1 : y'.name = "<init>") (w1 : (Jvm.Cond.methodLink y.cls idx y').before a0 Z = true) (w2 : (Jvm.Cond.instanceMethod y').before a0 Z = true) (w3 : (Jvm.Cond.initialized y'.cls).before a0 Z = true) (w4 : (Jvm.Cond.code y' bytes' maxL' none).before a0 Z = true)
    (hy : y'.cls ≠ "java/lang/invoke/MethodHandle" ∧ y'.cls ≠ "java/lang/invoke/VarHandle") (M : Meets l Z n0 y' bytes' maxL' none rm [] (.ref a :: argsL).toArray W F') (hfr : rm.frames + 1 ≤ R.frames) (hlo : W1 + (maxL' + 11) + rm.locals ≤ R.locals) (hsz : ls.size = maxL) (hlen : ∀ sig, parseMethodDescriptor y'.desc = some sig → argsL.length = sig.parameters.length) (hst : stk = argsL.reverse ++ .ref a :: rest) (hW1 : (rest.map fun v => v.category).sum ≤ W1)
    (hcells : cells + rm.cells ≤ R.cells) (hslots : slots + rm.slots ≤ R.slots) (ec : cells + rm.cells = cells') (es : slots + rm.slots = slots') (hp : pc + 3 = pc') (k : ∀ v W', F' v W' → Go l Z n0 R code maxL y ret D W' cells' slots' pc' ls (v.toList ++ rest) F) : Go l Z n0 R code maxL y ret D W cells slots pc ls stk F := by
  subst hp ec es
  obtain ⟨p, e, s, m, args, below, meth, c⟩ := D
  intro hx hZ hby hml hown hnm hret hlk T locs X N Wd
  obtain ⟨v, _, ⟨T', L', k', n'⟩, -, X', ⟨Lc, ⟨hFr, W', hWd, hF⟩, l1, y1, z1⟩, st⟩ := X.specialBack hx hy1 hown (mvT hZ w1) (mvT hZ w2) (mvT hZ w4) hy (backOf (W := W1) (h := T.heap) (Q := fun v h L => Fr n0 L ∧ ∃ W', World Z n0 h W' ∧ F' v W') (M T.heap Wd) hZ w4 w3 hfr hlo) (g := mkF m pc ls stk) rfl (hsz.trans hml.symm) (Steps.refl _) hlen hst (by show 2 * 0 + _ ≤ _; omega) (hb hby hd) (fun _ _ => ⟨rfl, rfl, hcells, hslots⟩)
  dsimp only [Pt.U, Pt.locs, Pt.cells, Pt.slots] at X' l1 y1 z1 st hWd
  subst l1 y1 z1
  obtain ⟨s₂, o, h1, h2⟩ := k v W' hF hx hZ hby hml hown hnm hret hlk T' _ X' (Fr.app N hFr) hWd
  exact ⟨s₂, o, st.trans h1, h2⟩
theorem Go.callV {idx W1 cells' slots' maxL' i : Nat} {C : String} {fs : List (String × String × Value)} {y' : MethodName} {bytes' : ByteArray} {ret' : Option FieldType} {rm : Room} {a : Addr} {argsL rest : List Value} {F' : Option Value → Wld → Prop} (hd : decode code pc = .ok (.invokevirtual idx, 3)) (w1 : (Jvm.Cond.methodLink y.cls idx y').before a0 Z = true) (w2 : (Jvm.Cond.declares y').before a0 Z = true) (w3 : (Jvm.Cond.selects C y' y').before a0 Z = true) (w4 : (Jvm.Cond.instanceMethod y').before a0 Z = true) (w5 : (Jvm.Cond.initialized y'.cls).before a0 Z = true) (w6 : (Jvm.Cond.code y' bytes' maxL' ret').before a0 Z = true)
    (hy : y'.cls ≠ "java/lang/invoke/MethodHandle" ∧ y'.cls ≠ "java/lang/invoke/VarHandle") (hi : W[i]? = some (a, .inl (C, fs))) (M : Meets l Z n0 y' bytes' maxL' ret' rm [] (.ref a :: argsL).toArray W F') (hfr : rm.frames + 1 ≤ R.frames) (hlo : W1 + (maxL' + 11) + rm.locals ≤ R.locals) (hsz : ls.size = maxL) (hlen : ∀ sig, parseMethodDescriptor y'.desc = some sig → argsL.length = sig.parameters.length) (hst : stk = argsL.reverse ++ .ref a :: rest) (hW1 : (rest.map fun v => v.category).sum ≤ W1)
    (hcells : cells + rm.cells ≤ R.cells) (hslots : slots + rm.slots ≤ R.slots) (ec : cells + rm.cells = cells') (es : slots + rm.slots = slots') (hp : pc + 3 = pc') (k : ∀ v W', F' v W' → Go l Z n0 R code maxL y ret D W' cells' slots' pc' ls (v.toList ++ rest) F) : Go l Z n0 R code maxL y ret D W cells slots pc ls stk F := by
  subst hp ec es
  obtain ⟨p, e, s, m, args, below, meth, c⟩ := D
  intro hx hZ hby hml hown hnm hret hlk T locs X N Wd
  obtain ⟨cq, kq, qa, qb, qc⟩ := isOf (T := T) hZ rfl (Wd.get hi).2.1
  obtain ⟨v, _, ⟨T', L', k', n'⟩, -, X', ⟨Lc, ⟨hFr, W', hWd, hF⟩, l1, y1, z1⟩, st⟩ := X.virtualBack hx (y := y') (z := y') hown (mvT hZ w1) (mvT hZ w2) (notFace_of_selects (args := #[]) (mvT hZ w3)) (mvT hZ w3) (mvT hZ w4) hy (backOf (W := W1) (h := T.heap) (Q := fun v h L => Fr n0 L ∧ ∃ W', World Z n0 h W' ∧ F' v W') (M T.heap Wd) hZ w6 w5 hfr hlo) qa qc (g := mkF m pc ls stk) rfl (hsz.trans hml.symm) (Steps.refl _) hlen hst (by show 2 * 0 + _ ≤ _; omega) (hb hby hd) (fun _ _ => ⟨rfl, rfl, hcells, hslots⟩)
  dsimp only [Pt.U, Pt.locs, Pt.cells, Pt.slots] at X' l1 y1 z1 st hWd
  subst l1 y1 z1
  obtain ⟨s₂, o, h1, h2⟩ := k v W' hF hx hZ hby hml hown hnm hret hlk T' _ X' (Fr.app N hFr) hWd
  exact ⟨s₂, o, st.trans h1, h2⟩
theorem Go.callP {idx W1 cells' slots' maxL' i kk : Nat} {fs : List (String × String × Value)} {y' : MethodName} {bytes' : ByteArray} {ret' : Option FieldType} {rm : Room} {a : Addr} {argsL rest : List Value} {F' : Option Value → Wld → Prop} (hd : decode code pc = .ok (.invokevirtual idx, 3)) (w1 : (Jvm.Cond.methodLink y.cls idx y').before a0 Z = true) (w2 : (Jvm.Cond.instanceMethod y').before a0 Z = true) (w3 : (Jvm.Cond.privateMethod y').before a0 Z = true) (w4 : (Jvm.Cond.instantiable y'.cls kk).before a0 Z = true) (w5 : (Jvm.Cond.initialized y'.cls).before a0 Z = true) (w6 : (Jvm.Cond.code y' bytes' maxL' ret').before a0 Z = true)
    (hy : y'.cls ≠ "java/lang/invoke/MethodHandle" ∧ y'.cls ≠ "java/lang/invoke/VarHandle") (hi : W[i]? = some (a, .inl (y'.cls, fs))) (M : Meets l Z n0 y' bytes' maxL' ret' rm [] (.ref a :: argsL).toArray W F') (hfr : rm.frames + 1 ≤ R.frames) (hlo : W1 + (maxL' + 11) + rm.locals ≤ R.locals) (hsz : ls.size = maxL) (hlen : ∀ sig, parseMethodDescriptor y'.desc = some sig → argsL.length = sig.parameters.length) (hst : stk = argsL.reverse ++ .ref a :: rest) (hW1 : (rest.map fun v => v.category).sum ≤ W1)
    (hcells : cells + rm.cells ≤ R.cells) (hslots : slots + rm.slots ≤ R.slots) (ec : cells + rm.cells = cells') (es : slots + rm.slots = slots') (hp : pc + 3 = pc') (k : ∀ v W', F' v W' → Go l Z n0 R code maxL y ret D W' cells' slots' pc' ls (v.toList ++ rest) F) : Go l Z n0 R code maxL y ret D W cells slots pc ls stk F := by
  subst hp ec es
  obtain ⟨p, e, s, m, args, below, meth, c⟩ := D
  intro hx hZ hby hml hown hnm hret hlk T locs X N Wd
  obtain ⟨cl, q1, q2⟩ := (Wd.get hi).2.1.cell
  have hpr : s.PrivateAt y' := Cond.privateMethod_at (mvP hZ w3 (args := #[]))
  obtain ⟨cB, kB, b1, b2, b3, b4⟩ := Cond.instantiable_spec (mv (args := args) hZ w4)
  obtain ⟨v, _, ⟨T', L', k', n'⟩, -, X', ⟨Lc, ⟨hFr, W', hWd, hF⟩, l1, y1, z1⟩, st⟩ := X.privateBack hx (y := y') hown (mvT hZ w1) (mvT hZ w2) (selects_self_of_private b1 b2 (Bool.or_eq_false_iff.mp b4.1).1 hpr (mvT hZ w2) hy) hpr (mvT hZ w6) hy (backOf (W := W1) (h := T.heap) (Q := fun v h L => Fr n0 L ∧ ∃ W', World Z n0 h W' ∧ F' v W') (M T.heap Wd) hZ w6 w5 hfr hlo) (g := mkF m pc ls stk) rfl (hsz.trans hml.symm) (Steps.refl _) (a := a) q1 q2 hlen hst (by show 2 * 0 + _ ≤ _; omega) (hb hby hd) (fun _ _ => ⟨rfl, rfl, hcells, hslots⟩)
  dsimp only [Pt.U, Pt.locs, Pt.cells, Pt.slots] at X' l1 y1 z1 st hWd
  subst l1 y1 z1
  obtain ⟨s₂, o, h1, h2⟩ := k v W' hF hx hZ hby hml hown hnm hret hlk T' _ X' (Fr.app N hFr) hWd
  exact ⟨s₂, o, st.trans h1, h2⟩
theorem Go.more {cells' slots' : Nat} (hc : cells ≤ cells') (hs : slots ≤ slots') (k : Go l Z n0 R code maxL y ret D W cells' slots' pc ls stk F) : Go l Z n0 R code maxL y ret D W cells slots pc ls stk F := by
  obtain ⟨p, e, s, m, args, below, meth, c⟩ := D
  intro hx hZ hby hml hown hnm hret hlk T locs X N Wd
  exact k hx hZ hby hml hown hnm hret hlk T locs (X.more hc hs) N Wd
/-! leaving -/
theorem Go.out {v : Option Value} (hv : ret = none → v = none) (hcells : cells ≤ R.cells) (hslots : slots ≤ R.slots) (st : ∀ (p : Program) (e : Env) (s : State) (m : MethodId) (args : Array Value) (below : List Frame) (meth : Method) (c : Code) (T : State) (locs : List Loc), p.tables.exec = Jvm.exec → c.code = code → meth.sig.returnType = ret → Stand p l e R s m args below meth c T locs cells slots → ∀ fs : List Frame,
      (∀ (f : JFrame) (acts : List Action), f.method = m → f.locked = none → f.entered = [] → (doReturn e (T.setTop f) acts v).1 = T.setFrames fs) → Steps p.tables e below (T.setTop (mkF m pc ls stk)) (T.setFrames fs)) (hF : F v W) : Go l Z n0 R code maxL y ret D W cells slots pc ls stk F := by
  obtain ⟨p, e, s, m, args, below, meth, c⟩ := D
  intro hx hZ hby hml hown hnm hret hlk T locs X N Wd
  obtain ⟨fs, hr, hrun, hended, hW, hsame⟩ := X.leave (v := v) (fun h => hv (hret ▸ h)) hlk
  exact ⟨_, _, st p e s m args below meth c T locs hx hby hret X fs hr, hrun, hended, v, locs, rfl, ⟨N, W, Wd, hF⟩, ⟨_, rfl⟩, hW, hsame.mono hcells hslots⟩
theorem Go.retV (hd : decode code pc = .ok (.return_, 1)) (hret : ret = none) (hcells : cells ≤ R.cells) (hslots : slots ≤ R.slots) (hF : F none W) : Go l Z n0 R code maxL y ret D W cells slots pc ls [] F := by
  subst hret; exact Go.out (fun _ => rfl) hcells hslots (fun p e s m args below meth c T locs hx hby hret X fs hr => X.returnOut hx hret (hb hby hd) hr) hF
theorem Go.retI {z : Int32} (hd : decode code pc = .ok (.ireturn, 1)) (hret : ret = some .int) (hcells : cells ≤ R.cells) (hslots : slots ≤ R.slots) (hF : F (some (.int z)) W) : Go l Z n0 R code maxL y ret D W cells slots pc ls (.int z :: stk) F := by
  subst hret; exact Go.out (fun h => nomatch h) hcells hslots (fun p e s m args below meth c T locs hx hby hret X fs hr => retOut X hx hret rfl (Or.inl ⟨rfl, Or.inl rfl, z, rfl⟩) (hb hby hd) hr) hF
theorem Go.retZ {z z' : Int32} (hd : decode code pc = .ok (.ireturn, 1)) (hret : ret = some .boolean) (hz : z &&& 1 = z') (hcells : cells ≤ R.cells) (hslots : slots ≤ R.slots) (hF : F (some (.int z')) W) : Go l Z n0 R code maxL y ret D W cells slots pc ls (.int z :: stk) F := by
  subst hret hz; exact Go.out (fun h => nomatch h) hcells hslots (fun p e s m args below meth c T locs hx hby hret X fs hr => retN X hx (t := .boolean) hret (Or.inl rfl) (hb hby hd) hr) hF
theorem Go.retJ {z : Int64} (hd : decode code pc = .ok (.lreturn, 1)) (hret : ret = some .long) (hcells : cells ≤ R.cells) (hslots : slots ≤ R.slots) (hF : F (some (.long z)) W) : Go l Z n0 R code maxL y ret D W cells slots pc ls (.long z :: stk) F := by
  subst hret; exact Go.out (fun h => nomatch h) hcells hslots (fun p e s m args below meth c T locs hx hby hret X fs hr => retOut X hx hret rfl (Or.inr (Or.inl ⟨rfl, rfl, z, rfl⟩)) (hb hby hd) hr) hF
theorem Go.retA {v : Value} {t : FieldType} (hd : decode code pc = .ok (.areturn, 1)) (hret : ret = some t) (ht : t.isReference = true) (hv : v.isRef = true) (hn : narrow t v = v) (hcells : cells ≤ R.cells) (hslots : slots ≤ R.slots) (hF : F (some v) W) : Go l Z n0 R code maxL y ret D W cells slots pc ls (v :: stk) F := by
  subst hret; exact Go.out (fun h => nomatch h) hcells hslots (fun p e s m args below meth c T locs hx hby hret X fs hr => retOut X hx hret hn (Or.inr (Or.inr (Or.inr (Or.inr ⟨rfl, ht, hv⟩)))) (hb hby hd) hr) hF
theorem Go.putF {idx i j kk : Nat} {C n t host : String} {a : Addr} {fs : List (String × String × Value)} {v old : Value} {ty : FieldType} {W' : Wld} (hd : decode code pc = .ok (.putfield idx, 3)) (w : (Jvm.Cond.fieldLink y.cls idx C n t).before a0 Z = true ∨ (Jvm.Cond.fieldLinkNest y.cls idx C n t host).before a0 Z = true) (L : (Jvm.Cond.lays C C n t).before a0 Z = true ∨ ((Jvm.Cond.laysFinal C C n t).before a0 Z = true ∧ y.cls = C ∧ y.name = "<init>")) (wi : (Jvm.Cond.instantiable C kk).before a0 Z = true)
    (hi : W[i]? = some (a, .inl (C, fs))) (hj : fs[j]? = some (n, t, old)) (hty : parseFieldDescriptor t = some ty) (hn : narrow ty v = v) (hf : fits ty v = true) (hW : W.set i (a, .inl (C, fs.set j (n, t, v))) = W') (hp : pc + 3 = pc')
    (k : Go l Z n0 R code maxL y ret D W' cells slots pc' ls stk F) : Go l Z n0 R code maxL y ret D W cells slots pc ls (v :: .ref a :: stk) F := by
  subst hp hW
  obtain ⟨p, e, s, m, args, below, meth, c⟩ := D
  intro hx hZ hby hml hown hnm hret hlk T locs X N Wd
  have G := Wd.get hi
  obtain ⟨T', h', X', e', K, st⟩ := putF X hx hZ hown w Via.refl rfl (G.2.2.1 _ (List.mem_of_getElem? hj)) G.2.1 (L.imp id fun q => ⟨q.1, q.2.1, hnm.trans q.2.2⟩) wi hty hn hf (g := mkF m pc ls (v :: .ref a :: stk)) rfl rfl (hb hby hd)
  obtain ⟨s₂, o, h1, h2⟩ := k hx hZ hby hml hown hnm hret hlk T' _ X' (Fr.snoc X' N G.1) (e' ▸ Wd.upd hi K (G.2.put K hj))
  exact ⟨s₂, o, st _ h1, h2⟩
theorem Go.newO {idx n cells' slots' : Nat} {W' : Addr → Wld} {C : String} {fs : List (String × String × Value)} (hd : decode code pc = .ok (.new idx, 3)) (w : (Jvm.Cond.classLink y.cls idx C).before a0 Z = true) (wi : (Jvm.Cond.instantiable C n).before a0 Z = true) (wz : (Jvm.Cond.initialized C).before a0 Z = true) (hL : Lay Z a0 C fs) (hN : (fs.map fun f => f.1).Nodup) (hcells : cells + 1 ≤ R.cells) (hslots : slots + n ≤ R.slots) (ec : cells + 1 = cells') (es : slots + n = slots') (hW : ∀ a, W ++ [(a, .inl (C, fs))] = W' a) (hp : pc + 3 = pc')
    (k : ∀ a, Go l Z n0 R code maxL y ret D (W' a) cells' slots' pc' ls (.ref a :: stk) F) : Go l Z n0 R code maxL y ret D W cells slots pc ls stk F := by
  subst hp ec es
  obtain ⟨p, e, s, m, args, below, meth, c⟩ := D
  intro hx hZ hby hml hown hnm hret hlk T locs X N Wd
  obtain ⟨T', h', X', e', E, A, Ds, -, st⟩ := newO X hx hZ hown w wi wz rfl (g := mkF m pc ls stk) rfl (hb hby hd) hcells hslots
  have I : Is Z h' T.heap.size (.inl (C, fs)) := ⟨A, fun f hf => by
    obtain ⟨L1, ty, t1, t2⟩ := hL f hf
    rw [t2]; exact Ds L1 t1, hL.slots hN⟩
  obtain ⟨s₂, o, h1, h2⟩ := k T.heap.size hx hZ hby hml hown hnm hret hlk T' _ X' N (e' ▸ hW _ ▸ Wd.add E I)
  exact ⟨s₂, o, st _ h1, h2⟩
theorem Go.newI {n : Int32} {len cells' slots' : Nat} {W' : Addr → Wld} (hd : decode code pc = .ok (.newarray .int, 2)) (w : (Jvm.Cond.arrayClass .int).before a0 Z = true) (hn : ¬ n < 0) (hlen : n.toNatClampNeg = len) (hbig : len * 8 ≤ 536870912) (hcells : cells + 1 ≤ R.cells) (hslots : slots + len ≤ R.slots) (ec : cells + 1 = cells') (es : slots + len = slots') (hW : ∀ a, W ++ [(a, .inr (.inl (List.replicate len 0)))] = W' a) (hp : pc + 2 = pc')
    (k : ∀ a, Go l Z n0 R code maxL y ret D (W' a) cells' slots' pc' ls (.ref a :: stk) F) : Go l Z n0 R code maxL y ret D W cells slots pc ls (.int n :: stk) F := by
  subst hp ec es hlen
  obtain ⟨p, e, s, m, args, below, meth, c⟩ := D
  intro hx hZ hby hml hown hnm hret hlk T locs X N Wd
  obtain ⟨T', h', cA, X', e', E, A, st⟩ := newP X hx hZ (aty := .int) w rfl (g := mkF m pc ls (.int n :: stk)) rfl (hb hby hd) rfl hn (Nat.le_refl _) hbig hcells hslots
  have I : Is Z h' T.heap.size (.inr (.inl (List.replicate n.toNatClampNeg 0))) := ⟨_, A, by
    show Array.replicate n.toNatClampNeg (defaultValue .int) = _
    simp [defaultValue], by simpa using (back32 hn).2⟩
  obtain ⟨s₂, o, h1, h2⟩ := k T.heap.size hx hZ hby hml hown hnm hret hlk T' _ X' N (e' ▸ hW _ ▸ Wd.add E I)
  exact ⟨s₂, o, st _ h1, h2⟩
theorem Go.newJ {n : Int32} {len cells' slots' : Nat} {W' : Addr → Wld} (hd : decode code pc = .ok (.newarray .long, 2)) (w : (Jvm.Cond.arrayClass .long).before a0 Z = true) (hn : ¬ n < 0) (hlen : n.toNatClampNeg = len) (hbig : len * 8 ≤ 536870912) (hcells : cells + 1 ≤ R.cells) (hslots : slots + len ≤ R.slots) (ec : cells + 1 = cells') (es : slots + len = slots') (hW : ∀ a, W ++ [(a, .inr (.inr (List.replicate len 0)))] = W' a) (hp : pc + 2 = pc')
    (k : ∀ a, Go l Z n0 R code maxL y ret D (W' a) cells' slots' pc' ls (.ref a :: stk) F) : Go l Z n0 R code maxL y ret D W cells slots pc ls (.int n :: stk) F := by
  subst hp ec es hlen
  obtain ⟨p, e, s, m, args, below, meth, c⟩ := D
  intro hx hZ hby hml hown hnm hret hlk T locs X N Wd
  obtain ⟨T', h', cA, X', e', E, A, st⟩ := newP X hx hZ (aty := .long) w rfl (g := mkF m pc ls (.int n :: stk)) rfl (hb hby hd) rfl hn (Nat.le_refl _) hbig hcells hslots
  have I : Is Z h' T.heap.size (.inr (.inr (List.replicate n.toNatClampNeg 0))) := ⟨_, A, by
    show Array.replicate n.toNatClampNeg (defaultValue .long) = _
    simp [defaultValue], by simpa using (back32 hn).2⟩
  obtain ⟨s₂, o, h1, h2⟩ := k T.heap.size hx hZ hby hml hown hnm hret hlk T' _ X' N (e' ▸ hW _ ▸ Wd.add E I)
  exact ⟨s₂, o, st _ h1, h2⟩
theorem Go.alenI {i : Nat} {a : Addr} {vs : List Int32} {n : Int32} (hd : decode code pc = .ok (.arraylength, 1)) (hi : W[i]? = some (a, .inr (.inl vs))) (hn : vs.length.toInt32 = n) (hp : pc + 1 = pc')
    (k : Go l Z n0 R code maxL y ret D W cells slots pc' ls (.int n :: stk) F) : Go l Z n0 R code maxL y ret D W cells slots pc ls (.ref a :: stk) F := by
  subst hp hn
  refine Go.plain (fun p e s m args below meth c T locs hx hZ hby hown X Wd target h => ?_) k
  obtain ⟨cl, A, e1, -⟩ := (Wd.get hi).2
  exact X.arraylength hx A.1 (State.isArrayOf_alike hZ.alike A.2.1) (g := mkF m pc ls (.ref a :: stk)) rfl rfl (hb hby hd) target (by rw [own_size e1]; exact h)
theorem Go.alenJ {i : Nat} {a : Addr} {vs : List Int64} {n : Int32} (hd : decode code pc = .ok (.arraylength, 1)) (hi : W[i]? = some (a, .inr (.inr vs))) (hn : vs.length.toInt32 = n) (hp : pc + 1 = pc')
    (k : Go l Z n0 R code maxL y ret D W cells slots pc' ls (.int n :: stk) F) : Go l Z n0 R code maxL y ret D W cells slots pc ls (.ref a :: stk) F := by
  subst hp hn
  refine Go.plain (fun p e s m args below meth c T locs hx hZ hby hown X Wd target h => ?_) k
  obtain ⟨cl, A, e1, -⟩ := (Wd.get hi).2
  exact X.arraylength hx A.1 (State.isArrayOf_alike hZ.alike A.2.1) (g := mkF m pc ls (.ref a :: stk)) rfl rfl (hb hby hd) target (by rw [own_sizeL e1]; exact h)
theorem Go.iaload {i : Nat} {a : Addr} {vs : List Int32} {j x : Int32} (hd : decode code pc = .ok (.iaload, 1)) (hi : W[i]? = some (a, .inr (.inl vs))) (hj : ¬ j < 0) (hv : vs[j.toNatClampNeg]? = some x) (hp : pc + 1 = pc')
    (k : Go l Z n0 R code maxL y ret D W cells slots pc' ls (.int x :: stk) F) : Go l Z n0 R code maxL y ret D W cells slots pc ls (.int j :: .ref a :: stk) F := by
  subst hp
  refine Go.plain (fun p e s m args below meth c T locs hx hZ hby hown X Wd target h => ?_) k
  obtain ⟨cl, A, e1, -⟩ := (Wd.get hi).2
  have hlt := (List.getElem?_eq_some_iff.mp hv).1
  exact X.iaload hx A.1 (State.isArrayOf_alike hZ.alike A.2.1) A.2.2 (own_in hj hlt (own_size e1)) (by rw [e1]; simp [hv]) (g := mkF m pc ls (.int j :: .ref a :: stk)) rfl rfl (hb hby hd) target h
theorem Go.laload {i : Nat} {a : Addr} {vs : List Int64} {j : Int32} {x : Int64} (hd : decode code pc = .ok (.laload, 1)) (hi : W[i]? = some (a, .inr (.inr vs))) (hj : ¬ j < 0) (hv : vs[j.toNatClampNeg]? = some x) (hp : pc + 1 = pc')
    (k : Go l Z n0 R code maxL y ret D W cells slots pc' ls (.long x :: stk) F) : Go l Z n0 R code maxL y ret D W cells slots pc ls (.int j :: .ref a :: stk) F := by
  subst hp
  refine Go.plain (fun p e s m args below meth c T locs hx hZ hby hown X Wd target h => ?_) k
  obtain ⟨cl, A, e1, -⟩ := (Wd.get hi).2
  have hlt := (List.getElem?_eq_some_iff.mp hv).1
  exact X.laload hx A.1 (State.isArrayOf_alike hZ.alike A.2.1) A.2.2 (own_in hj hlt (own_sizeL e1)) (by rw [e1]; simp [hv]) (g := mkF m pc ls (.int j :: .ref a :: stk)) rfl rfl (hb hby hd) target h
theorem Go.iastore {i : Nat} {a : Addr} {vs : List Int32} {j x : Int32} {W' : Wld} (hd : decode code pc = .ok (.iastore, 1)) (hi : W[i]? = some (a, .inr (.inl vs))) (hj : ¬ j < 0) (hlt : j.toNatClampNeg < vs.length) (hW : W.set i (a, .inr (.inl (vs.set j.toNatClampNeg x))) = W') (hp : pc + 1 = pc')
    (k : Go l Z n0 R code maxL y ret D W' cells slots pc' ls stk F) : Go l Z n0 R code maxL y ret D W cells slots pc ls (.int x :: .int j :: .ref a :: stk) F := by
  subst hp hW
  obtain ⟨p, e, s, m, args, below, meth, c⟩ := D
  intro hx hZ hby hml hown hnm hret hlk T locs X N Wd
  have G := Wd.get hi
  obtain ⟨cl, A, e1, e2⟩ := id G.2
  obtain ⟨T', h', X', e', K, st⟩ := stI X hx hZ rfl A (own_in hj hlt (own_size e1)) (g := mkF m pc ls (.int x :: .int j :: .ref a :: stk)) rfl rfl (hb hby hd)
  obtain ⟨s₂, o, h1, h2⟩ := k hx hZ hby hml hown hnm hret hlk T' _ X' (Fr.snoc X' N G.1) (e' ▸ Wd.upd hi K (Is.setI K G.2))
  exact ⟨s₂, o, st _ h1, h2⟩
theorem Go.lastore {i : Nat} {a : Addr} {vs : List Int64} {j : Int32} {x : Int64} {W' : Wld} (hd : decode code pc = .ok (.lastore, 1)) (hi : W[i]? = some (a, .inr (.inr vs))) (hj : ¬ j < 0) (hlt : j.toNatClampNeg < vs.length) (hW : W.set i (a, .inr (.inr (vs.set j.toNatClampNeg x))) = W') (hp : pc + 1 = pc')
    (k : Go l Z n0 R code maxL y ret D W' cells slots pc' ls stk F) : Go l Z n0 R code maxL y ret D W cells slots pc ls (.long x :: .int j :: .ref a :: stk) F := by
  subst hp hW
  obtain ⟨p, e, s, m, args, below, meth, c⟩ := D
  intro hx hZ hby hml hown hnm hret hlk T locs X N Wd
  have G := Wd.get hi
  obtain ⟨cl, A, e1, e2⟩ := id G.2
  obtain ⟨T', h', X', e', K, st⟩ := stJ X hx hZ rfl A (own_in hj hlt (own_sizeL e1)) (g := mkF m pc ls (.long x :: .int j :: .ref a :: stk)) rfl rfl (hb hby hd)
  obtain ⟨s₂, o, h1, h2⟩ := k hx hZ hby hml hown hnm hret hlk T' _ X' (Fr.snoc X' N G.1) (e' ▸ Wd.upd hi K (Is.setJ K G.2))
  exact ⟨s₂, o, st _ h1, h2⟩
theorem Go.less {W' : Wld} (q : W'.Sublist W) (k : Go l Z n0 R code maxL y ret D W' cells slots pc ls stk F) : Go l Z n0 R code maxL y ret D W cells slots pc ls stk F := by
  obtain ⟨p, e, s, m, args, below, meth, c⟩ := D
  intro hx hZ hby hml hown hnm hret hlk T locs X N Wd
  exact k hx hZ hby hml hown hnm hret hlk T locs X N ⟨Wd.1, (q.map _).nodup Wd.2.1, fun z hz => Wd.2.2 z (q.subset hz)⟩
end OwnSteps
theorem d1_0 : decode prog_33_method_1_code 0 = .ok (.aload_n 0, 1) := by decide +kernel
theorem d1_1 : decode prog_33_method_1_code 1 = .ok (.invokespecial 1, 3) := by decide +kernel
theorem d1_4 : decode prog_33_method_1_code 4 = .ok (.aload_n 0, 1) := by decide +kernel
theorem d1_5 : decode prog_33_method_1_code 5 = .ok (.aload_n 1, 1) := by decide +kernel
theorem d1_6 : decode prog_33_method_1_code 6 = .ok (.putfield 7, 3) := by decide +kernel
theorem d1_9 : decode prog_33_method_1_code 9 = .ok (.aload_n 0, 1) := by decide +kernel
theorem d1_10 : decode prog_33_method_1_code 10 = .ok (.aload_n 2, 1) := by decide +kernel
theorem d1_11 : decode prog_33_method_1_code 11 = .ok (.putfield 13, 3) := by decide +kernel
theorem d1_14 : decode prog_33_method_1_code 14 = .ok (.aload_n 0, 1) := by decide +kernel
theorem d1_15 : decode prog_33_method_1_code 15 = .ok (.aload_n 3, 1) := by decide +kernel
theorem d1_16 : decode prog_33_method_1_code 16 = .ok (.putfield 16, 3) := by decide +kernel
theorem d1_19 : decode prog_33_method_1_code 19 = .ok (.aload_n 0, 1) := by decide +kernel
theorem d1_20 : decode prog_33_method_1_code 20 = .ok (.aload 4, 2) := by decide +kernel
theorem d1_22 : decode prog_33_method_1_code 22 = .ok (.putfield 19, 3) := by decide +kernel
theorem d1_25 : decode prog_33_method_1_code 25 = .ok (.aload_n 0, 1) := by decide +kernel
theorem d1_26 : decode prog_33_method_1_code 26 = .ok (.aload 5, 2) := by decide +kernel
theorem d1_28 : decode prog_33_method_1_code 28 = .ok (.putfield 22, 3) := by decide +kernel
theorem d1_31 : decode prog_33_method_1_code 31 = .ok (.return_, 1) := by decide +kernel
set_option maxRecDepth 65536 in
set_option maxHeartbeats 40000000 in
theorem rm1n (l : Launch) (Z : State) (n0 : Nat) (w0 : Array Value) (hw : ∀ d ∈ tables_1, d.before w0 Z = true) (a0 : Addr) (d h : Addr) :
    Meets l Z n0 (⟨"com/example/contender_ranking/contenderranking/index/PostingsList", "<init>", "([I[I[I[ILjava/util/Map;)V"⟩ : MethodName) prog_33_method_1_code 6 none ({ frames := 1, cells := 0, slots := 0, locals := 12 } : Room) [] #[(.ref a0), (.ref d), (.ref d), .null, (.ref h), .null] [(a0, .inl ("com/example/contender_ranking/contenderranking/index/PostingsList", [("documents", "[I", .null), ("counts", "[I", .null), ("champions", "[I", .null), ("heaviest", "[I", .null), ("heaviestColumns", "Ljava/util/Map;", .null)])), (h, .inr (.inl []))] (fun v W' => v = none ∧ W' = [(a0, .inl ("com/example/contender_ranking/contenderranking/index/PostingsList", [("documents", "[I", (.ref d)), ("counts", "[I", (.ref d)), ("champions", "[I", .null), ("heaviest", "[I", (.ref h)), ("heaviestColumns", "Ljava/util/Map;", .null)])), (h, .inr (.inl []))]) := by
  refine Meets.of_go (ls := #[.val (.ref a0), .val (.ref d), .val (.ref d), .val .null, .val (.ref h), .val .null]) (plainFor_of_name (by first | (simp [plainName, overriddenIn]; done) | decide +kernel)) (fun m => by first | (simp [entryFrame, mkF, argsToLocals, Value.category, maxLocals]; done) | rfl) (fun D => ?_)
  refine Go.aloadN (pc' := 1) d1_0 rfl rfl rfl ?_
  refine Go.initO (pc' := 4) (W1 := 0) d1_1 (hw _ (List.mem_of_getElem? (i := 7) rfl)) (hw _ (List.mem_of_getElem? (i := 8) rfl)) (hw _ (List.mem_of_getElem? (i := 9) rfl)) rfl (by decide) (Nat.le_of_eq rfl) (by decide) rfl ?_
  refine Go.aloadN (pc' := 5) d1_4 rfl rfl rfl ?_
  refine Go.aloadN (pc' := 6) d1_5 rfl rfl rfl ?_
  refine Go.putF (pc' := 9) (i := 0) (j := 0) (ty := (.array .int)) (W' := [(a0, .inl ("com/example/contender_ranking/contenderranking/index/PostingsList", [("documents", "[I", (.ref d)), ("counts", "[I", .null), ("champions", "[I", .null), ("heaviest", "[I", .null), ("heaviestColumns", "Ljava/util/Map;", .null)])), (h, .inr (.inl []))]) (host := "") d1_6 (Or.inl (hw _ (List.mem_of_getElem? (i := 10) rfl))) (Or.inr ⟨(hw _ (List.mem_of_getElem? (i := 11) rfl)), rfl, rfl⟩) (hw _ (List.mem_of_getElem? (i := 2) rfl)) rfl rfl (by decide) rfl rfl rfl rfl ?_
  refine Go.aloadN (pc' := 10) d1_9 rfl rfl rfl ?_
  refine Go.aloadN (pc' := 11) d1_10 rfl rfl rfl ?_
  refine Go.putF (pc' := 14) (i := 0) (j := 1) (ty := (.array .int)) (W' := [(a0, .inl ("com/example/contender_ranking/contenderranking/index/PostingsList", [("documents", "[I", (.ref d)), ("counts", "[I", (.ref d)), ("champions", "[I", .null), ("heaviest", "[I", .null), ("heaviestColumns", "Ljava/util/Map;", .null)])), (h, .inr (.inl []))]) (host := "") d1_11 (Or.inl (hw _ (List.mem_of_getElem? (i := 12) rfl))) (Or.inr ⟨(hw _ (List.mem_of_getElem? (i := 13) rfl)), rfl, rfl⟩) (hw _ (List.mem_of_getElem? (i := 2) rfl)) rfl rfl (by decide) rfl rfl rfl rfl ?_
  refine Go.aloadN (pc' := 15) d1_14 rfl rfl rfl ?_
  refine Go.aloadN (pc' := 16) d1_15 rfl rfl rfl ?_
  refine Go.putF (pc' := 19) (i := 0) (j := 2) (ty := (.array .int)) (W' := [(a0, .inl ("com/example/contender_ranking/contenderranking/index/PostingsList", [("documents", "[I", (.ref d)), ("counts", "[I", (.ref d)), ("champions", "[I", .null), ("heaviest", "[I", .null), ("heaviestColumns", "Ljava/util/Map;", .null)])), (h, .inr (.inl []))]) (host := "") d1_16 (Or.inl (hw _ (List.mem_of_getElem? (i := 14) rfl))) (Or.inr ⟨(hw _ (List.mem_of_getElem? (i := 15) rfl)), rfl, rfl⟩) (hw _ (List.mem_of_getElem? (i := 2) rfl)) rfl rfl (by decide) rfl rfl rfl rfl ?_
  refine Go.aloadN (pc' := 20) d1_19 rfl rfl rfl ?_
  refine Go.aload (pc' := 22) d1_20 rfl rfl rfl ?_
  refine Go.putF (pc' := 25) (i := 0) (j := 3) (ty := (.array .int)) (W' := [(a0, .inl ("com/example/contender_ranking/contenderranking/index/PostingsList", [("documents", "[I", (.ref d)), ("counts", "[I", (.ref d)), ("champions", "[I", .null), ("heaviest", "[I", (.ref h)), ("heaviestColumns", "Ljava/util/Map;", .null)])), (h, .inr (.inl []))]) (host := "") d1_22 (Or.inl (hw _ (List.mem_of_getElem? (i := 16) rfl))) (Or.inr ⟨(hw _ (List.mem_of_getElem? (i := 17) rfl)), rfl, rfl⟩) (hw _ (List.mem_of_getElem? (i := 2) rfl)) rfl rfl (by decide) rfl rfl rfl rfl ?_
  refine Go.aloadN (pc' := 26) d1_25 rfl rfl rfl ?_
  refine Go.aload (pc' := 28) d1_26 rfl rfl rfl ?_
  refine Go.putF (pc' := 31) (i := 0) (j := 4) (ty := (.object "java/util/Map")) (W' := [(a0, .inl ("com/example/contender_ranking/contenderranking/index/PostingsList", [("documents", "[I", (.ref d)), ("counts", "[I", (.ref d)), ("champions", "[I", .null), ("heaviest", "[I", (.ref h)), ("heaviestColumns", "Ljava/util/Map;", .null)])), (h, .inr (.inl []))]) (host := "") d1_28 (Or.inl (hw _ (List.mem_of_getElem? (i := 18) rfl))) (Or.inr ⟨(hw _ (List.mem_of_getElem? (i := 19) rfl)), rfl, rfl⟩) (hw _ (List.mem_of_getElem? (i := 2) rfl)) rfl rfl (by decide) rfl rfl rfl rfl ?_
  exact Go.retV d1_31 rfl (by decide) (by decide) ⟨rfl, rfl⟩
theorem d3_0 : decode prog_33_method_7_code 0 = .ok (.aload_n 0, 1) := by decide +kernel
theorem d3_1 : decode prog_33_method_7_code 1 = .ok (.getfield 16, 3) := by decide +kernel
theorem d3_4 : decode prog_33_method_7_code 4 = .ok (.ifnull 7, 3) := by decide +kernel
theorem d3_11 : decode prog_33_method_7_code 11 = .ok (.iconst 0, 1) := by decide +kernel
theorem d3_12 : decode prog_33_method_7_code 12 = .ok (.ireturn, 1) := by decide +kernel
set_option maxRecDepth 65536 in
set_option maxHeartbeats 40000000 in
theorem rm3n (l : Launch) (Z : State) (n0 : Nat) (w0 : Array Value) (hw : ∀ d ∈ tables_1, d.before w0 Z = true) (a0 : Addr) (d h : Addr) :
    Meets l Z n0 (⟨"com/example/contender_ranking/contenderranking/index/PostingsList", "hasChampions", "()Z"⟩ : MethodName) prog_33_method_7_code 1 (some .boolean) ({ frames := 0, cells := 0, slots := 0, locals := 0 } : Room) [] #[(.ref a0)] [(a0, .inl ("com/example/contender_ranking/contenderranking/index/PostingsList", [("documents", "[I", (.ref d)), ("counts", "[I", (.ref d)), ("champions", "[I", .null), ("heaviest", "[I", (.ref h)), ("heaviestColumns", "Ljava/util/Map;", .null)])), (h, .inr (.inl []))] (fun v W' => v = some (.int (0 : Int32)) ∧ W' = [(a0, .inl ("com/example/contender_ranking/contenderranking/index/PostingsList", [("documents", "[I", (.ref d)), ("counts", "[I", (.ref d)), ("champions", "[I", .null), ("heaviest", "[I", (.ref h)), ("heaviestColumns", "Ljava/util/Map;", .null)])), (h, .inr (.inl []))]) := by
  refine Meets.of_go (ls := #[.val (.ref a0)]) (plainFor_of_name (by first | (simp [plainName, overriddenIn]; done) | decide +kernel)) (fun m => by first | (simp [entryFrame, mkF, argsToLocals, Value.category, maxLocals]; done) | rfl) (fun D => ?_)
  refine Go.aloadN (pc' := 1) d3_0 rfl rfl rfl ?_
  refine Go.getF (pc' := 4) (i := 0) (j := 2) (v := .null) (host := "") d3_1 (Or.inl (hw _ (List.mem_of_getElem? (i := 14) rfl))) rfl rfl rfl ?_
  refine Go.ifnullY (pc' := 11) d3_4 (by decide) (by decide) ?_
  refine Go.iconst (pc' := 12) (v := (0 : Int32)) d3_11 rfl rfl ?_
  exact Go.retZ (z' := (0 : Int32)) d3_12 rfl (by decide) (by decide) (by decide) ⟨rfl, rfl⟩
set_option maxRecDepth 65536 in
set_option maxHeartbeats 40000000 in
theorem rm1c (l : Launch) (Z : State) (n0 : Nat) (w0 : Array Value) (hw : ∀ d ∈ tables_1, d.before w0 Z = true) (a0 : Addr) (d h : Addr) (c : Addr) (vs : List Int32) :
    Meets l Z n0 (⟨"com/example/contender_ranking/contenderranking/index/PostingsList", "<init>", "([I[I[I[ILjava/util/Map;)V"⟩ : MethodName) prog_33_method_1_code 6 none ({ frames := 1, cells := 0, slots := 0, locals := 12 } : Room) [] #[(.ref a0), (.ref d), (.ref d), (.ref c), (.ref h), .null] [(c, .inr (.inl vs)), (a0, .inl ("com/example/contender_ranking/contenderranking/index/PostingsList", [("documents", "[I", .null), ("counts", "[I", .null), ("champions", "[I", .null), ("heaviest", "[I", .null), ("heaviestColumns", "Ljava/util/Map;", .null)])), (h, .inr (.inl []))] (fun v W' => v = none ∧ W' = [(c, .inr (.inl vs)), (a0, .inl ("com/example/contender_ranking/contenderranking/index/PostingsList", [("documents", "[I", (.ref d)), ("counts", "[I", (.ref d)), ("champions", "[I", (.ref c)), ("heaviest", "[I", (.ref h)), ("heaviestColumns", "Ljava/util/Map;", .null)])), (h, .inr (.inl []))]) := by
  refine Meets.of_go (ls := #[.val (.ref a0), .val (.ref d), .val (.ref d), .val (.ref c), .val (.ref h), .val .null]) (plainFor_of_name (by first | (simp [plainName, overriddenIn]; done) | decide +kernel)) (fun m => by first | (simp [entryFrame, mkF, argsToLocals, Value.category, maxLocals]; done) | rfl) (fun D => ?_)
  refine Go.aloadN (pc' := 1) d1_0 rfl rfl rfl ?_
  refine Go.initO (pc' := 4) (W1 := 0) d1_1 (hw _ (List.mem_of_getElem? (i := 7) rfl)) (hw _ (List.mem_of_getElem? (i := 8) rfl)) (hw _ (List.mem_of_getElem? (i := 9) rfl)) rfl (by decide) (Nat.le_of_eq rfl) (by decide) rfl ?_
  refine Go.aloadN (pc' := 5) d1_4 rfl rfl rfl ?_
  refine Go.aloadN (pc' := 6) d1_5 rfl rfl rfl ?_
  refine Go.putF (pc' := 9) (i := 1) (j := 0) (ty := (.array .int)) (W' := [(c, .inr (.inl vs)), (a0, .inl ("com/example/contender_ranking/contenderranking/index/PostingsList", [("documents", "[I", (.ref d)), ("counts", "[I", .null), ("champions", "[I", .null), ("heaviest", "[I", .null), ("heaviestColumns", "Ljava/util/Map;", .null)])), (h, .inr (.inl []))]) (host := "") d1_6 (Or.inl (hw _ (List.mem_of_getElem? (i := 10) rfl))) (Or.inr ⟨(hw _ (List.mem_of_getElem? (i := 11) rfl)), rfl, rfl⟩) (hw _ (List.mem_of_getElem? (i := 2) rfl)) rfl rfl (by decide) rfl rfl rfl rfl ?_
  refine Go.aloadN (pc' := 10) d1_9 rfl rfl rfl ?_
  refine Go.aloadN (pc' := 11) d1_10 rfl rfl rfl ?_
  refine Go.putF (pc' := 14) (i := 1) (j := 1) (ty := (.array .int)) (W' := [(c, .inr (.inl vs)), (a0, .inl ("com/example/contender_ranking/contenderranking/index/PostingsList", [("documents", "[I", (.ref d)), ("counts", "[I", (.ref d)), ("champions", "[I", .null), ("heaviest", "[I", .null), ("heaviestColumns", "Ljava/util/Map;", .null)])), (h, .inr (.inl []))]) (host := "") d1_11 (Or.inl (hw _ (List.mem_of_getElem? (i := 12) rfl))) (Or.inr ⟨(hw _ (List.mem_of_getElem? (i := 13) rfl)), rfl, rfl⟩) (hw _ (List.mem_of_getElem? (i := 2) rfl)) rfl rfl (by decide) rfl rfl rfl rfl ?_
  refine Go.aloadN (pc' := 15) d1_14 rfl rfl rfl ?_
  refine Go.aloadN (pc' := 16) d1_15 rfl rfl rfl ?_
  refine Go.putF (pc' := 19) (i := 1) (j := 2) (ty := (.array .int)) (W' := [(c, .inr (.inl vs)), (a0, .inl ("com/example/contender_ranking/contenderranking/index/PostingsList", [("documents", "[I", (.ref d)), ("counts", "[I", (.ref d)), ("champions", "[I", (.ref c)), ("heaviest", "[I", .null), ("heaviestColumns", "Ljava/util/Map;", .null)])), (h, .inr (.inl []))]) (host := "") d1_16 (Or.inl (hw _ (List.mem_of_getElem? (i := 14) rfl))) (Or.inr ⟨(hw _ (List.mem_of_getElem? (i := 15) rfl)), rfl, rfl⟩) (hw _ (List.mem_of_getElem? (i := 2) rfl)) rfl rfl (by decide) rfl rfl rfl rfl ?_
  refine Go.aloadN (pc' := 20) d1_19 rfl rfl rfl ?_
  refine Go.aload (pc' := 22) d1_20 rfl rfl rfl ?_
  refine Go.putF (pc' := 25) (i := 1) (j := 3) (ty := (.array .int)) (W' := [(c, .inr (.inl vs)), (a0, .inl ("com/example/contender_ranking/contenderranking/index/PostingsList", [("documents", "[I", (.ref d)), ("counts", "[I", (.ref d)), ("champions", "[I", (.ref c)), ("heaviest", "[I", (.ref h)), ("heaviestColumns", "Ljava/util/Map;", .null)])), (h, .inr (.inl []))]) (host := "") d1_22 (Or.inl (hw _ (List.mem_of_getElem? (i := 16) rfl))) (Or.inr ⟨(hw _ (List.mem_of_getElem? (i := 17) rfl)), rfl, rfl⟩) (hw _ (List.mem_of_getElem? (i := 2) rfl)) rfl rfl (by decide) rfl rfl rfl rfl ?_
  refine Go.aloadN (pc' := 26) d1_25 rfl rfl rfl ?_
  refine Go.aload (pc' := 28) d1_26 rfl rfl rfl ?_
  refine Go.putF (pc' := 31) (i := 1) (j := 4) (ty := (.object "java/util/Map")) (W' := [(c, .inr (.inl vs)), (a0, .inl ("com/example/contender_ranking/contenderranking/index/PostingsList", [("documents", "[I", (.ref d)), ("counts", "[I", (.ref d)), ("champions", "[I", (.ref c)), ("heaviest", "[I", (.ref h)), ("heaviestColumns", "Ljava/util/Map;", .null)])), (h, .inr (.inl []))]) (host := "") d1_28 (Or.inl (hw _ (List.mem_of_getElem? (i := 18) rfl))) (Or.inr ⟨(hw _ (List.mem_of_getElem? (i := 19) rfl)), rfl, rfl⟩) (hw _ (List.mem_of_getElem? (i := 2) rfl)) rfl rfl (by decide) rfl rfl rfl rfl ?_
  exact Go.retV d1_31 rfl (by decide) (by decide) ⟨rfl, rfl⟩
theorem d3_7 : decode prog_33_method_7_code 7 = .ok (.iconst 1, 1) := by decide +kernel
theorem d3_8 : decode prog_33_method_7_code 8 = .ok (.goto 4, 3) := by decide +kernel
set_option maxRecDepth 65536 in
set_option maxHeartbeats 40000000 in
theorem rm3c (l : Launch) (Z : State) (n0 : Nat) (w0 : Array Value) (hw : ∀ d ∈ tables_1, d.before w0 Z = true) (a0 : Addr) (d h : Addr) (c : Addr) (vs : List Int32) :
    Meets l Z n0 (⟨"com/example/contender_ranking/contenderranking/index/PostingsList", "hasChampions", "()Z"⟩ : MethodName) prog_33_method_7_code 1 (some .boolean) ({ frames := 0, cells := 0, slots := 0, locals := 0 } : Room) [] #[(.ref a0)] [(c, .inr (.inl vs)), (a0, .inl ("com/example/contender_ranking/contenderranking/index/PostingsList", [("documents", "[I", (.ref d)), ("counts", "[I", (.ref d)), ("champions", "[I", (.ref c)), ("heaviest", "[I", (.ref h)), ("heaviestColumns", "Ljava/util/Map;", .null)])), (h, .inr (.inl []))] (fun v W' => v = some (.int (1 : Int32)) ∧ W' = [(c, .inr (.inl vs)), (a0, .inl ("com/example/contender_ranking/contenderranking/index/PostingsList", [("documents", "[I", (.ref d)), ("counts", "[I", (.ref d)), ("champions", "[I", (.ref c)), ("heaviest", "[I", (.ref h)), ("heaviestColumns", "Ljava/util/Map;", .null)])), (h, .inr (.inl []))]) := by
  refine Meets.of_go (ls := #[.val (.ref a0)]) (plainFor_of_name (by first | (simp [plainName, overriddenIn]; done) | decide +kernel)) (fun m => by first | (simp [entryFrame, mkF, argsToLocals, Value.category, maxLocals]; done) | rfl) (fun D => ?_)
  refine Go.aloadN (pc' := 1) d3_0 rfl rfl rfl ?_
  refine Go.getF (pc' := 4) (i := 1) (j := 2) (v := (.ref c)) (host := "") d3_1 (Or.inl (hw _ (List.mem_of_getElem? (i := 14) rfl))) rfl rfl rfl ?_
  refine Go.ifnullN (pc' := 7) d3_4 rfl ?_
  refine Go.iconst (pc' := 8) (v := (1 : Int32)) d3_7 rfl rfl ?_
  refine Go.goto (pc' := 12) d3_8 (by decide) (by decide) ?_
  exact Go.retZ (z' := (1 : Int32)) d3_12 rfl (by decide) (by decide) (by decide) ⟨rfl, rfl⟩
theorem d5_0 : decode prog_33_method_10_code 0 = .ok (.aload_n 0, 1) := by decide +kernel
theorem d5_1 : decode prog_33_method_10_code 1 = .ok (.getfield 16, 3) := by decide +kernel
theorem d5_4 : decode prog_33_method_10_code 4 = .ok (.ifnonnull 13, 3) := by decide +kernel
theorem d5_17 : decode prog_33_method_10_code 17 = .ok (.aload_n 0, 1) := by decide +kernel
theorem d5_18 : decode prog_33_method_10_code 18 = .ok (.getfield 16, 3) := by decide +kernel
theorem d5_21 : decode prog_33_method_10_code 21 = .ok (.areturn, 1) := by decide +kernel
set_option maxRecDepth 65536 in
set_option maxHeartbeats 40000000 in
theorem rm5c (l : Launch) (Z : State) (n0 : Nat) (w0 : Array Value) (hw : ∀ d ∈ tables_1, d.before w0 Z = true) (a0 : Addr) (d h : Addr) (c : Addr) (vs : List Int32) :
    Meets l Z n0 (⟨"com/example/contender_ranking/contenderranking/index/PostingsList", "champions", "()[I"⟩ : MethodName) prog_33_method_10_code 1 (some (.array .int)) ({ frames := 0, cells := 0, slots := 0, locals := 0 } : Room) [] #[(.ref a0)] [(c, .inr (.inl vs)), (a0, .inl ("com/example/contender_ranking/contenderranking/index/PostingsList", [("documents", "[I", (.ref d)), ("counts", "[I", (.ref d)), ("champions", "[I", (.ref c)), ("heaviest", "[I", (.ref h)), ("heaviestColumns", "Ljava/util/Map;", .null)])), (h, .inr (.inl []))] (fun v W' => v = some (.ref c) ∧ W' = [(c, .inr (.inl vs)), (a0, .inl ("com/example/contender_ranking/contenderranking/index/PostingsList", [("documents", "[I", (.ref d)), ("counts", "[I", (.ref d)), ("champions", "[I", (.ref c)), ("heaviest", "[I", (.ref h)), ("heaviestColumns", "Ljava/util/Map;", .null)])), (h, .inr (.inl []))]) := by
  refine Meets.of_go (ls := #[.val (.ref a0)]) (plainFor_of_name (by first | (simp [plainName, overriddenIn]; done) | decide +kernel)) (fun m => by first | (simp [entryFrame, mkF, argsToLocals, Value.category, maxLocals]; done) | rfl) (fun D => ?_)
  refine Go.aloadN (pc' := 1) d5_0 rfl rfl rfl ?_
  refine Go.getF (pc' := 4) (i := 1) (j := 2) (v := (.ref c)) (host := "") d5_1 (Or.inl (hw _ (List.mem_of_getElem? (i := 14) rfl))) rfl rfl rfl ?_
  refine Go.ifnonnullY (pc' := 17) d5_4 (by decide) (by decide) ?_
  refine Go.aloadN (pc' := 18) d5_17 rfl rfl rfl ?_
  refine Go.getF (pc' := 21) (i := 1) (j := 2) (v := (.ref c)) (host := "") d5_18 (Or.inl (hw _ (List.mem_of_getElem? (i := 14) rfl))) rfl rfl rfl ?_
  exact Go.retA d5_21 rfl rfl rfl rfl (by decide) (by decide) ⟨rfl, rfl⟩
theorem d4_0 : decode prog_33_method_8_code 0 = .ok (.aload_n 0, 1) := by decide +kernel
theorem d4_1 : decode prog_33_method_8_code 1 = .ok (.invokevirtual 57, 3) := by decide +kernel
theorem d4_4 : decode prog_33_method_8_code 4 = .ok (.arraylength, 1) := by decide +kernel
theorem d4_5 : decode prog_33_method_8_code 5 = .ok (.ireturn, 1) := by decide +kernel
theorem pd__28_29_5bI : parseMethodDescriptor "()[I" = some ⟨[], (some (.array .int))⟩ := by decide +kernel
set_option maxRecDepth 65536 in
set_option maxHeartbeats 40000000 in
theorem rm4c (l : Launch) (Z : State) (n0 : Nat) (w0 : Array Value) (hw : ∀ d ∈ tables_1, d.before w0 Z = true) (a0 : Addr) (d h : Addr) (c : Addr) (vs : List Int32) :
    Meets l Z n0 (⟨"com/example/contender_ranking/contenderranking/index/PostingsList", "championCount", "()I"⟩ : MethodName) prog_33_method_8_code 1 (some .int) ({ frames := 1, cells := 0, slots := 0, locals := 12 } : Room) [] #[(.ref a0)] [(c, .inr (.inl vs)), (a0, .inl ("com/example/contender_ranking/contenderranking/index/PostingsList", [("documents", "[I", (.ref d)), ("counts", "[I", (.ref d)), ("champions", "[I", (.ref c)), ("heaviest", "[I", (.ref h)), ("heaviestColumns", "Ljava/util/Map;", .null)])), (h, .inr (.inl []))] (fun v W' => v = some (.int vs.length.toInt32) ∧ W' = [(c, .inr (.inl vs)), (a0, .inl ("com/example/contender_ranking/contenderranking/index/PostingsList", [("documents", "[I", (.ref d)), ("counts", "[I", (.ref d)), ("champions", "[I", (.ref c)), ("heaviest", "[I", (.ref h)), ("heaviestColumns", "Ljava/util/Map;", .null)])), (h, .inr (.inl []))]) := by
  refine Meets.of_go (ls := #[.val (.ref a0)]) (plainFor_of_name (by first | (simp [plainName, overriddenIn]; done) | decide +kernel)) (fun m => by first | (simp [entryFrame, mkF, argsToLocals, Value.category, maxLocals]; done) | rfl) (fun D => ?_)
  refine Go.aloadN (pc' := 1) d4_0 rfl rfl rfl ?_
  refine Go.callP (pc' := 4) (W1 := 0) (cells' := 0) (slots' := 0) (argsL := []) (rest := []) (y' := (⟨"com/example/contender_ranking/contenderranking/index/PostingsList", "champions", "()[I"⟩ : MethodName)) (a := a0) (i := 1) d4_1 (hw _ (List.mem_of_getElem? (i := 30) rfl)) (hw _ (List.mem_of_getElem? (i := 31) rfl)) (hw _ (List.mem_of_getElem? (i := 32) rfl)) (hw _ (List.mem_of_getElem? (i := 2) rfl)) (hw _ (List.mem_of_getElem? (i := 3) rfl)) (hw _ (List.mem_of_getElem? (i := 33) rfl)) (by decide) rfl (rm5c l Z n0 w0 hw a0 d h c vs) (by decide) (by decide) rfl (lenOf pd__28_29_5bI rfl) rfl (Nat.le_of_eq rfl) (by decide) (by decide) rfl rfl rfl (fun v W' hF => ?_)
  obtain ⟨rfl, rfl⟩ := hF
  refine Go.val ?_
  refine Go.alenI (pc' := 5) (i := 0) (n := vs.length.toInt32) d4_4 rfl rfl rfl ?_
  exact Go.retI d4_5 rfl (by decide) (by decide) ⟨rfl, rfl⟩
theorem d6_0 : decode prog_33_method_9_code 0 = .ok (.aload_n 0, 1) := by decide +kernel
theorem d6_1 : decode prog_33_method_9_code 1 = .ok (.invokevirtual 57, 3) := by decide +kernel
theorem d6_4 : decode prog_33_method_9_code 4 = .ok (.iload_n 1, 1) := by decide +kernel
theorem d6_5 : decode prog_33_method_9_code 5 = .ok (.iaload, 1) := by decide +kernel
theorem d6_6 : decode prog_33_method_9_code 6 = .ok (.ireturn, 1) := by decide +kernel
set_option maxRecDepth 65536 in
set_option maxHeartbeats 40000000 in
theorem rm6c (l : Launch) (Z : State) (n0 : Nat) (w0 : Array Value) (hw : ∀ d ∈ tables_1, d.before w0 Z = true) (a0 : Addr) (p1 : Int32) (d h : Addr) (c : Addr) (vs : List Int32) (xx : Int32) (hj : ¬ p1 < 0) (hv : vs[p1.toNatClampNeg]? = some xx) :
    Meets l Z n0 (⟨"com/example/contender_ranking/contenderranking/index/PostingsList", "championPlace", "(I)I"⟩ : MethodName) prog_33_method_9_code 2 (some .int) ({ frames := 1, cells := 0, slots := 0, locals := 12 } : Room) [] #[(.ref a0), (.int p1)] [(c, .inr (.inl vs)), (a0, .inl ("com/example/contender_ranking/contenderranking/index/PostingsList", [("documents", "[I", (.ref d)), ("counts", "[I", (.ref d)), ("champions", "[I", (.ref c)), ("heaviest", "[I", (.ref h)), ("heaviestColumns", "Ljava/util/Map;", .null)])), (h, .inr (.inl []))] (fun v W' => v = some (.int xx) ∧ W' = [(c, .inr (.inl vs)), (a0, .inl ("com/example/contender_ranking/contenderranking/index/PostingsList", [("documents", "[I", (.ref d)), ("counts", "[I", (.ref d)), ("champions", "[I", (.ref c)), ("heaviest", "[I", (.ref h)), ("heaviestColumns", "Ljava/util/Map;", .null)])), (h, .inr (.inl []))]) := by
  refine Meets.of_go (ls := #[.val (.ref a0), .val (.int p1)]) (plainFor_of_name (by first | (simp [plainName, overriddenIn]; done) | decide +kernel)) (fun m => by first | (simp [entryFrame, mkF, argsToLocals, Value.category, maxLocals]; done) | rfl) (fun D => ?_)
  refine Go.aloadN (pc' := 1) d6_0 rfl rfl rfl ?_
  refine Go.callP (pc' := 4) (W1 := 0) (cells' := 0) (slots' := 0) (argsL := []) (rest := []) (y' := (⟨"com/example/contender_ranking/contenderranking/index/PostingsList", "champions", "()[I"⟩ : MethodName)) (a := a0) (i := 1) d6_1 (hw _ (List.mem_of_getElem? (i := 30) rfl)) (hw _ (List.mem_of_getElem? (i := 31) rfl)) (hw _ (List.mem_of_getElem? (i := 32) rfl)) (hw _ (List.mem_of_getElem? (i := 2) rfl)) (hw _ (List.mem_of_getElem? (i := 3) rfl)) (hw _ (List.mem_of_getElem? (i := 33) rfl)) (by decide) rfl (rm5c l Z n0 w0 hw a0 d h c vs) (by decide) (by decide) rfl (lenOf pd__28_29_5bI rfl) rfl (Nat.le_of_eq rfl) (by decide) (by decide) rfl rfl rfl (fun v W' hF => ?_)
  obtain ⟨rfl, rfl⟩ := hF
  refine Go.val ?_
  refine Go.iloadN (pc' := 5) d6_4 rfl rfl ?_
  refine Go.iaload (pc' := 6) (i := 0) (x := xx) d6_5 rfl hj hv rfl ?_
  exact Go.retI d6_6 rfl (by decide) (by decide) ⟨rfl, rfl⟩
theorem own_k (x : Int32) : 0 ≤ (x &&& 3).toInt ∧ (x &&& 3).toInt ≤ 3 := by
  have h : (x &&& 3).toBitVec.toNat = x.toBitVec.toNat % 4 := by
    rw [Int32.toBitVec_and, BitVec.toNat_and]
    exact Nat.and_two_pow_sub_one_eq_mod _ 2
  have h2 : (x &&& 3).toInt = ((x &&& 3).toBitVec.toNat : Int) := by
    show (x &&& 3).toBitVec.toInt = _
    rw [BitVec.toInt_eq_toNat_cond, if_pos (by omega)]
  omega
theorem own_three {k : Int32} (h : 0 ≤ k.toInt ∧ k.toInt ≤ 3) (p0 : ¬ k = 0) (p1 : ¬ k = 1) (p2 : ¬ k = 2) : k = 3 := by
  have h0 : (0 : Int32).toInt = 0 := rfl
  have h1 : (1 : Int32).toInt = 1 := rfl
  have h2 : (2 : Int32).toInt = 2 := rfl
  have h3 : (3 : Int32).toInt = 3 := rfl
  rw [← Int32.toInt_inj] at *; omega
theorem pd__28_29I : parseMethodDescriptor "()I" = some ⟨[], (some .int)⟩ := by decide +kernel
theorem pd__28_29Z : parseMethodDescriptor "()Z" = some ⟨[], (some .boolean)⟩ := by decide +kernel
theorem pd__28I_29I : parseMethodDescriptor "(I)I" = some ⟨[.int], (some .int)⟩ := by decide +kernel
theorem pd__28_5bI_5bI_5bI_5bILjava_2futil_2fMap_3b_29V : parseMethodDescriptor "([I[I[I[ILjava/util/Map;)V" = some ⟨[(.array .int), (.array .int), (.array .int), (.array .int), (.object "java/util/Map")], none⟩ := by decide +kernel
set_option maxRecDepth 65536 in
set_option maxHeartbeats 40000000 in
theorem rm0 (l : Launch) (Z : State) (n0 : Nat) (w0 : Array Value) (hw : ∀ d ∈ tables_1, d.before w0 Z = true) (p0 : Int32) (p1 : Int32) (p2 : Int32) (p3 : Int32) (p4 : Int32) (p5 : Int32) :
    Meets l Z n0 x code maxLocals ret room_1 tables_1 #[(.int p0), (.int p1), (.int p2), (.int p3), (.int p4), (.int p5)] [] (fun v _ => v = some (.int 1)) := by
  refine Meets.of_go (ls := #[.val (.int p0), .val (.int p1), .val (.int p2), .val (.int p3), .val (.int p4), .val (.int p5), .unset, .unset, .unset, .unset, .unset, .unset, .unset]) (plainFor_of_name (by first | (simp [plainName, overriddenIn]; done) | decide +kernel)) (fun m => by first | (simp [entryFrame, mkF, argsToLocals, Value.category, maxLocals]; done) | rfl) (fun D => ?_)
  show Go l Z n0 room_1 code 13 x (some .boolean) D _ 0 0 0 _ _ _
  have hk := own_k (XT.ushr p0 (1 : Int32))
  have hn := own_k (XT.ushr p0 (3 : Int32))
  have k181n : ∀ (dd : Addr), Go l Z n0 room_1 code 13 x (some .boolean) D [] 1 3 181 #[.val (.int p0), .val (.int p1), .val (.int p2), .val (.int p3), .val (.int p4), .val (.int p5), .val (.int (0 : Int32)), .val (.int ((XT.ushr p0 (1 : Int32)) &&& (3 : Int32))), .val (.int ((XT.ushr p0 (3 : Int32)) &&& (3 : Int32))), .val .null, .val (.ref dd), .unset, .unset] [] (fun v _ => v = some (.int 1)) := by
    intro dd
    refine Go.newO (pc' := 184) (cells' := 2) (slots' := 8) (W' := fun o => [(o, .inl ("com/example/contender_ranking/contenderranking/index/PostingsList", [("documents", "[I", .null), ("counts", "[I", .null), ("champions", "[I", .null), ("heaviest", "[I", .null), ("heaviestColumns", "Ljava/util/Map;", .null)]))]) at_181 (hw _ (List.mem_of_getElem? (i := 1) rfl)) (hw _ (List.mem_of_getElem? (i := 2) rfl)) (hw _ (List.mem_of_getElem? (i := 3) rfl)) (lay_cons (ty := (.array .int)) (Or.inr (hw _ (List.mem_of_getElem? (i := 11) rfl))) (by decide) rfl (lay_cons (ty := (.array .int)) (Or.inr (hw _ (List.mem_of_getElem? (i := 13) rfl))) (by decide) rfl (lay_cons (ty := (.array .int)) (Or.inr (hw _ (List.mem_of_getElem? (i := 15) rfl))) (by decide) rfl (lay_cons (ty := (.array .int)) (Or.inr (hw _ (List.mem_of_getElem? (i := 17) rfl))) (by decide) rfl (lay_cons (ty := (.object "java/util/Map")) (Or.inr (hw _ (List.mem_of_getElem? (i := 19) rfl))) (by decide) rfl lay_nil))))) (by decide) (by decide) (by decide) rfl rfl (fun _ => rfl) rfl (fun o => ?_)
    refine Go.dup (pc' := 185) at_184 rfl rfl ?_
    refine Go.aload (pc' := 187) at_185 rfl rfl rfl ?_
    refine Go.aload (pc' := 189) at_187 rfl rfl rfl ?_
    refine Go.aload (pc' := 191) at_189 rfl rfl rfl ?_
    refine Go.iconst (pc' := 192) (v := (0 : Int32)) at_191 rfl rfl ?_
    refine Go.newI (pc' := 194) (len := 0) (cells' := 3) (slots' := 8) (W' := fun hh => [(o, .inl ("com/example/contender_ranking/contenderranking/index/PostingsList", [("documents", "[I", .null), ("counts", "[I", .null), ("champions", "[I", .null), ("heaviest", "[I", .null), ("heaviestColumns", "Ljava/util/Map;", .null)])), (hh, .inr (.inl (List.replicate 0 0)))]) at_192 (hw _ (List.mem_of_getElem? (i := 0) rfl)) (by decide) (by decide) (by decide) (by decide) (by decide) rfl rfl (fun _ => rfl) rfl (fun hh => ?_)
    refine Go.aconstNull (pc' := 195) at_194 rfl ?_
    refine Go.callI (pc' := 198) (W1 := 1) (cells' := 3) (slots' := 8) (argsL := [(.ref dd), (.ref dd), .null, (.ref hh), .null]) (rest := [(.ref o)]) (y' := (⟨"com/example/contender_ranking/contenderranking/index/PostingsList", "<init>", "([I[I[I[ILjava/util/Map;)V"⟩ : MethodName)) (a := o) at_195 rfl (hw _ (List.mem_of_getElem? (i := 4) rfl)) (hw _ (List.mem_of_getElem? (i := 5) rfl)) (hw _ (List.mem_of_getElem? (i := 3) rfl)) (hw _ (List.mem_of_getElem? (i := 6) rfl)) (by decide) (rm1n l Z n0 w0 hw o dd hh) (by decide) (by decide) rfl (lenOf pd__28_5bI_5bI_5bI_5bILjava_2futil_2fMap_3b_29V rfl) rfl (Nat.le_of_eq rfl) (by decide) (by decide) rfl rfl rfl (fun v W' hF => ?_)
    obtain ⟨rfl, rfl⟩ := hF
    refine Go.nov ?_
    refine Go.astore (pc' := 200) (ls' := #[.val (.int p0), .val (.int p1), .val (.int p2), .val (.int p3), .val (.int p4), .val (.int p5), .val (.int (0 : Int32)), .val (.int ((XT.ushr p0 (1 : Int32)) &&& (3 : Int32))), .val (.int ((XT.ushr p0 (3 : Int32)) &&& (3 : Int32))), .val .null, .val (.ref dd), .val (.ref o), .unset]) at_198 rfl rfl rfl ?_
    refine Go.aload (pc' := 202) at_200 rfl rfl rfl ?_
    refine Go.callV (pc' := 205) (W1 := 0) (cells' := 3) (slots' := 8) (argsL := []) (rest := []) (y' := (⟨"com/example/contender_ranking/contenderranking/index/PostingsList", "hasChampions", "()Z"⟩ : MethodName)) (a := o) (i := 0) at_202 (hw _ (List.mem_of_getElem? (i := 20) rfl)) (hw _ (List.mem_of_getElem? (i := 21) rfl)) (hw _ (List.mem_of_getElem? (i := 23) rfl)) (hw _ (List.mem_of_getElem? (i := 22) rfl)) (hw _ (List.mem_of_getElem? (i := 3) rfl)) (hw _ (List.mem_of_getElem? (i := 24) rfl)) (by decide) rfl (rm3n l Z n0 w0 hw o dd hh) (by decide) (by decide) rfl (lenOf pd__28_29Z rfl) rfl (Nat.le_of_eq rfl) (by decide) (by decide) rfl rfl rfl (fun v W' hF => ?_)
    obtain ⟨rfl, rfl⟩ := hF
    refine Go.val ?_
    refine Go.istore (pc' := 207) (ls' := #[.val (.int p0), .val (.int p1), .val (.int p2), .val (.int p3), .val (.int p4), .val (.int p5), .val (.int (0 : Int32)), .val (.int ((XT.ushr p0 (1 : Int32)) &&& (3 : Int32))), .val (.int ((XT.ushr p0 (3 : Int32)) &&& (3 : Int32))), .val .null, .val (.ref dd), .val (.ref o), .val (.int (0 : Int32))]) at_205 rfl rfl ?_
    refine Go.iload (pc' := 209) at_207 rfl rfl ?_
    refine Go.iload (pc' := 211) at_209 rfl rfl ?_
    refine Go.icmp_eq (pcY := 216) (pcN := 214) at_211 (by decide) (by decide) rfl (fun hc211 => ?_) (fun hc211 => absurd hc211 (Classical.not_not.mpr rfl))
    refine Go.aload (pc' := 218) at_216 rfl rfl rfl ?_
    refine Go.callV (pc' := 221) (W1 := 0) (cells' := 3) (slots' := 8) (argsL := []) (rest := []) (y' := (⟨"com/example/contender_ranking/contenderranking/index/PostingsList", "hasChampions", "()Z"⟩ : MethodName)) (a := o) (i := 0) at_218 (hw _ (List.mem_of_getElem? (i := 20) rfl)) (hw _ (List.mem_of_getElem? (i := 21) rfl)) (hw _ (List.mem_of_getElem? (i := 23) rfl)) (hw _ (List.mem_of_getElem? (i := 22) rfl)) (hw _ (List.mem_of_getElem? (i := 3) rfl)) (hw _ (List.mem_of_getElem? (i := 24) rfl)) (by decide) rfl (rm3n l Z n0 w0 hw o dd hh) (by decide) (by decide) rfl (lenOf pd__28_29Z rfl) rfl (Nat.le_of_eq rfl) (by decide) (by decide) rfl rfl rfl (fun v W' hF => ?_)
    obtain ⟨rfl, rfl⟩ := hF
    refine Go.val ?_
    refine Go.iload (pc' := 223) at_221 rfl rfl ?_
    refine Go.icmp_eq (pcY := 228) (pcN := 226) at_223 (by decide) (by decide) rfl (fun hc223 => ?_) (fun hc223 => absurd hc223 (Classical.not_not.mpr rfl))
    refine Go.iload (pc' := 230) at_228 rfl rfl ?_
    refine Go.if_ne (pcY := 235) (pcN := 233) at_230 (by decide) (by decide) rfl (fun hc230 => absurd hc230 (by decide)) (fun hc230 => ?_)
    refine Go.iconst (pc' := 234) (v := (1 : Int32)) at_233 rfl rfl ?_
    exact Go.retZ (z' := (1 : Int32)) at_234 rfl (by decide) (by decide) (by decide) rfl
  have k105n : Go l Z n0 room_1 code 13 x (some .boolean) D [] 0 0 105 #[.val (.int p0), .val (.int p1), .val (.int p2), .val (.int p3), .val (.int p4), .val (.int p5), .val (.int (0 : Int32)), .val (.int ((XT.ushr p0 (1 : Int32)) &&& (3 : Int32))), .val (.int ((XT.ushr p0 (3 : Int32)) &&& (3 : Int32))), .val .null, .unset, .unset, .unset] [] (fun v _ => v = some (.int 1)) := by
    refine Go.iload (pc' := 107) at_105 rfl rfl ?_
    refine Go.if_ne (pcY := 118) (pcN := 110) at_107 (by decide) (by decide) rfl (fun hc107 => ?_) (fun hc107 => ?_)
    ·
      refine Go.iload (pc' := 120) at_118 rfl rfl ?_
      refine Go.iconst (pc' := 121) (v := (1 : Int32)) at_120 rfl rfl ?_
      refine Go.icmp_ne (pcY := 137) (pcN := 124) at_121 (by decide) (by decide) rfl (fun hc121 => ?_) (fun hc121 => ?_)
      ·
        refine Go.iload (pc' := 139) at_137 rfl rfl ?_
        refine Go.iconst (pc' := 140) (v := (2 : Int32)) at_139 rfl rfl ?_
        refine Go.icmp_ne (pcY := 161) (pcN := 143) at_140 (by decide) (by decide) rfl (fun hc140 => ?_) (fun hc140 => ?_)
        ·
          refine Go.iconst (pc' := 162) (v := (3 : Int32)) at_161 rfl rfl ?_
          refine Go.newI (pc' := 164) (len := 3) (cells' := 1) (slots' := 3) (W' := fun r1 => [(r1, .inr (.inl (List.replicate 3 0)))]) at_162 (hw _ (List.mem_of_getElem? (i := 0) rfl)) (by decide) (by decide) (by decide) (by decide) (by decide) rfl rfl (fun _ => rfl) rfl (fun r1 => ?_)
          refine Go.dup (pc' := 165) at_164 rfl rfl ?_
          refine Go.iconst (pc' := 166) (v := (0 : Int32)) at_165 rfl rfl ?_
          refine Go.iload (pc' := 168) at_166 rfl rfl ?_
          refine Go.iastore (pc' := 169) (i := 0) (W' := [(r1, .inr (.inl [p4, 0, 0]))]) at_168 rfl (by decide) (Nat.le_of_ble_eq_true rfl) rfl rfl ?_
          refine Go.dup (pc' := 170) at_169 rfl rfl ?_
          refine Go.iconst (pc' := 171) (v := (1 : Int32)) at_170 rfl rfl ?_
          refine Go.iload (pc' := 173) at_171 rfl rfl ?_
          refine Go.iastore (pc' := 174) (i := 0) (W' := [(r1, .inr (.inl [p4, p5, 0]))]) at_173 rfl (by decide) (Nat.le_of_ble_eq_true rfl) rfl rfl ?_
          refine Go.dup (pc' := 175) at_174 rfl rfl ?_
          refine Go.iconst (pc' := 176) (v := (2 : Int32)) at_175 rfl rfl ?_
          refine Go.iload (pc' := 178) at_176 rfl rfl ?_
          refine Go.iastore (pc' := 179) (i := 0) (W' := [(r1, .inr (.inl [p4, p5, p4]))]) at_178 rfl (by decide) (Nat.le_of_ble_eq_true rfl) rfl rfl ?_
          refine Go.astore (pc' := 181) (ls' := #[.val (.int p0), .val (.int p1), .val (.int p2), .val (.int p3), .val (.int p4), .val (.int p5), .val (.int (0 : Int32)), .val (.int ((XT.ushr p0 (1 : Int32)) &&& (3 : Int32))), .val (.int ((XT.ushr p0 (3 : Int32)) &&& (3 : Int32))), .val .null, .val (.ref r1), .unset, .unset]) at_179 rfl rfl rfl ?_
          refine Go.less (W' := []) (List.Sublist.cons _ List.Sublist.slnil) ?_
          refine Go.more (cells' := 1) (slots' := 3) (by decide) (by decide) ?_
          exact k181n _ 
        ·
          refine Go.iconst (pc' := 144) (v := (2 : Int32)) at_143 rfl rfl ?_
          refine Go.newI (pc' := 146) (len := 2) (cells' := 1) (slots' := 2) (W' := fun r2 => [(r2, .inr (.inl (List.replicate 2 0)))]) at_144 (hw _ (List.mem_of_getElem? (i := 0) rfl)) (by decide) (by decide) (by decide) (by decide) (by decide) rfl rfl (fun _ => rfl) rfl (fun r2 => ?_)
          refine Go.dup (pc' := 147) at_146 rfl rfl ?_
          refine Go.iconst (pc' := 148) (v := (0 : Int32)) at_147 rfl rfl ?_
          refine Go.iload (pc' := 150) at_148 rfl rfl ?_
          refine Go.iastore (pc' := 151) (i := 0) (W' := [(r2, .inr (.inl [p4, 0]))]) at_150 rfl (by decide) (Nat.le_of_ble_eq_true rfl) rfl rfl ?_
          refine Go.dup (pc' := 152) at_151 rfl rfl ?_
          refine Go.iconst (pc' := 153) (v := (1 : Int32)) at_152 rfl rfl ?_
          refine Go.iload (pc' := 155) at_153 rfl rfl ?_
          refine Go.iastore (pc' := 156) (i := 0) (W' := [(r2, .inr (.inl [p4, p5]))]) at_155 rfl (by decide) (Nat.le_of_ble_eq_true rfl) rfl rfl ?_
          refine Go.astore (pc' := 158) (ls' := #[.val (.int p0), .val (.int p1), .val (.int p2), .val (.int p3), .val (.int p4), .val (.int p5), .val (.int (0 : Int32)), .val (.int ((XT.ushr p0 (1 : Int32)) &&& (3 : Int32))), .val (.int ((XT.ushr p0 (3 : Int32)) &&& (3 : Int32))), .val .null, .val (.ref r2), .unset, .unset]) at_156 rfl rfl rfl ?_
          refine Go.goto (pc' := 181) at_158 (by decide) (by decide) ?_
          refine Go.less (W' := []) (List.Sublist.cons _ List.Sublist.slnil) ?_
          refine Go.more (cells' := 1) (slots' := 3) (by decide) (by decide) ?_
          exact k181n _ 
      ·
        refine Go.iconst (pc' := 125) (v := (1 : Int32)) at_124 rfl rfl ?_
        refine Go.newI (pc' := 127) (len := 1) (cells' := 1) (slots' := 1) (W' := fun r3 => [(r3, .inr (.inl (List.replicate 1 0)))]) at_125 (hw _ (List.mem_of_getElem? (i := 0) rfl)) (by decide) (by decide) (by decide) (by decide) (by decide) rfl rfl (fun _ => rfl) rfl (fun r3 => ?_)
        refine Go.dup (pc' := 128) at_127 rfl rfl ?_
        refine Go.iconst (pc' := 129) (v := (0 : Int32)) at_128 rfl rfl ?_
        refine Go.iload (pc' := 131) at_129 rfl rfl ?_
        refine Go.iastore (pc' := 132) (i := 0) (W' := [(r3, .inr (.inl [p4]))]) at_131 rfl (by decide) (Nat.le_of_ble_eq_true rfl) rfl rfl ?_
        refine Go.astore (pc' := 134) (ls' := #[.val (.int p0), .val (.int p1), .val (.int p2), .val (.int p3), .val (.int p4), .val (.int p5), .val (.int (0 : Int32)), .val (.int ((XT.ushr p0 (1 : Int32)) &&& (3 : Int32))), .val (.int ((XT.ushr p0 (3 : Int32)) &&& (3 : Int32))), .val .null, .val (.ref r3), .unset, .unset]) at_132 rfl rfl rfl ?_
        refine Go.goto (pc' := 181) at_134 (by decide) (by decide) ?_
        refine Go.less (W' := []) (List.Sublist.cons _ List.Sublist.slnil) ?_
        refine Go.more (cells' := 1) (slots' := 3) (by decide) (by decide) ?_
        exact k181n _ 
    ·
      refine Go.iconst (pc' := 111) (v := (0 : Int32)) at_110 rfl rfl ?_
      refine Go.newI (pc' := 113) (len := 0) (cells' := 1) (slots' := 0) (W' := fun r4 => [(r4, .inr (.inl (List.replicate 0 0)))]) at_111 (hw _ (List.mem_of_getElem? (i := 0) rfl)) (by decide) (by decide) (by decide) (by decide) (by decide) rfl rfl (fun _ => rfl) rfl (fun r4 => ?_)
      refine Go.astore (pc' := 115) (ls' := #[.val (.int p0), .val (.int p1), .val (.int p2), .val (.int p3), .val (.int p4), .val (.int p5), .val (.int (0 : Int32)), .val (.int ((XT.ushr p0 (1 : Int32)) &&& (3 : Int32))), .val (.int ((XT.ushr p0 (3 : Int32)) &&& (3 : Int32))), .val .null, .val (.ref r4), .unset, .unset]) at_113 rfl rfl rfl ?_
      refine Go.goto (pc' := 181) at_115 (by decide) (by decide) ?_
      refine Go.less (W' := []) (List.Sublist.cons _ List.Sublist.slnil) ?_
      refine Go.more (cells' := 1) (slots' := 3) (by decide) (by decide) ?_
      exact k181n _ 
  have k181c : ∀ (c : Addr) (vs : List Int32) (dd : Addr), vs.length.toInt32 = ((XT.ushr p0 (1 : Int32)) &&& (3 : Int32)) → (0 < ((XT.ushr p0 (1 : Int32)) &&& (3 : Int32)) → vs[0]? = some p1) → (1 < ((XT.ushr p0 (1 : Int32)) &&& (3 : Int32)) → vs[1]? = some p2) → (2 < ((XT.ushr p0 (1 : Int32)) &&& (3 : Int32)) → vs[2]? = some p3) → Go l Z n0 room_1 code 13 x (some .boolean) D [(c, .inr (.inl vs))] 2 6 181 #[.val (.int p0), .val (.int p1), .val (.int p2), .val (.int p3), .val (.int p4), .val (.int p5), .val (.int (1 : Int32)), .val (.int ((XT.ushr p0 (1 : Int32)) &&& (3 : Int32))), .val (.int ((XT.ushr p0 (3 : Int32)) &&& (3 : Int32))), .val (.ref c), .val (.ref dd), .unset, .unset] [] (fun v _ => v = some (.int 1)) := by
    intro c vs dd hk0 h0 h1 h2
    refine Go.newO (pc' := 184) (cells' := 3) (slots' := 11) (W' := fun o => [(c, .inr (.inl vs)), (o, .inl ("com/example/contender_ranking/contenderranking/index/PostingsList", [("documents", "[I", .null), ("counts", "[I", .null), ("champions", "[I", .null), ("heaviest", "[I", .null), ("heaviestColumns", "Ljava/util/Map;", .null)]))]) at_181 (hw _ (List.mem_of_getElem? (i := 1) rfl)) (hw _ (List.mem_of_getElem? (i := 2) rfl)) (hw _ (List.mem_of_getElem? (i := 3) rfl)) (lay_cons (ty := (.array .int)) (Or.inr (hw _ (List.mem_of_getElem? (i := 11) rfl))) (by decide) rfl (lay_cons (ty := (.array .int)) (Or.inr (hw _ (List.mem_of_getElem? (i := 13) rfl))) (by decide) rfl (lay_cons (ty := (.array .int)) (Or.inr (hw _ (List.mem_of_getElem? (i := 15) rfl))) (by decide) rfl (lay_cons (ty := (.array .int)) (Or.inr (hw _ (List.mem_of_getElem? (i := 17) rfl))) (by decide) rfl (lay_cons (ty := (.object "java/util/Map")) (Or.inr (hw _ (List.mem_of_getElem? (i := 19) rfl))) (by decide) rfl lay_nil))))) (by decide) (by decide) (by decide) rfl rfl (fun _ => rfl) rfl (fun o => ?_)
    refine Go.dup (pc' := 185) at_184 rfl rfl ?_
    refine Go.aload (pc' := 187) at_185 rfl rfl rfl ?_
    refine Go.aload (pc' := 189) at_187 rfl rfl rfl ?_
    refine Go.aload (pc' := 191) at_189 rfl rfl rfl ?_
    refine Go.iconst (pc' := 192) (v := (0 : Int32)) at_191 rfl rfl ?_
    refine Go.newI (pc' := 194) (len := 0) (cells' := 4) (slots' := 11) (W' := fun hh => [(c, .inr (.inl vs)), (o, .inl ("com/example/contender_ranking/contenderranking/index/PostingsList", [("documents", "[I", .null), ("counts", "[I", .null), ("champions", "[I", .null), ("heaviest", "[I", .null), ("heaviestColumns", "Ljava/util/Map;", .null)])), (hh, .inr (.inl (List.replicate 0 0)))]) at_192 (hw _ (List.mem_of_getElem? (i := 0) rfl)) (by decide) (by decide) (by decide) (by decide) (by decide) rfl rfl (fun _ => rfl) rfl (fun hh => ?_)
    refine Go.aconstNull (pc' := 195) at_194 rfl ?_
    refine Go.callI (pc' := 198) (W1 := 1) (cells' := 4) (slots' := 11) (argsL := [(.ref dd), (.ref dd), (.ref c), (.ref hh), .null]) (rest := [(.ref o)]) (y' := (⟨"com/example/contender_ranking/contenderranking/index/PostingsList", "<init>", "([I[I[I[ILjava/util/Map;)V"⟩ : MethodName)) (a := o) at_195 rfl (hw _ (List.mem_of_getElem? (i := 4) rfl)) (hw _ (List.mem_of_getElem? (i := 5) rfl)) (hw _ (List.mem_of_getElem? (i := 3) rfl)) (hw _ (List.mem_of_getElem? (i := 6) rfl)) (by decide) (rm1c l Z n0 w0 hw o dd hh c vs) (by decide) (by decide) rfl (lenOf pd__28_5bI_5bI_5bI_5bILjava_2futil_2fMap_3b_29V rfl) rfl (Nat.le_of_eq rfl) (by decide) (by decide) rfl rfl rfl (fun v W' hF => ?_)
    obtain ⟨rfl, rfl⟩ := hF
    refine Go.nov ?_
    refine Go.astore (pc' := 200) (ls' := #[.val (.int p0), .val (.int p1), .val (.int p2), .val (.int p3), .val (.int p4), .val (.int p5), .val (.int (1 : Int32)), .val (.int ((XT.ushr p0 (1 : Int32)) &&& (3 : Int32))), .val (.int ((XT.ushr p0 (3 : Int32)) &&& (3 : Int32))), .val (.ref c), .val (.ref dd), .val (.ref o), .unset]) at_198 rfl rfl rfl ?_
    refine Go.aload (pc' := 202) at_200 rfl rfl rfl ?_
    refine Go.callV (pc' := 205) (W1 := 0) (cells' := 4) (slots' := 11) (argsL := []) (rest := []) (y' := (⟨"com/example/contender_ranking/contenderranking/index/PostingsList", "hasChampions", "()Z"⟩ : MethodName)) (a := o) (i := 1) at_202 (hw _ (List.mem_of_getElem? (i := 20) rfl)) (hw _ (List.mem_of_getElem? (i := 21) rfl)) (hw _ (List.mem_of_getElem? (i := 23) rfl)) (hw _ (List.mem_of_getElem? (i := 22) rfl)) (hw _ (List.mem_of_getElem? (i := 3) rfl)) (hw _ (List.mem_of_getElem? (i := 24) rfl)) (by decide) rfl (rm3c l Z n0 w0 hw o dd hh c vs) (by decide) (by decide) rfl (lenOf pd__28_29Z rfl) rfl (Nat.le_of_eq rfl) (by decide) (by decide) rfl rfl rfl (fun v W' hF => ?_)
    obtain ⟨rfl, rfl⟩ := hF
    refine Go.val ?_
    refine Go.istore (pc' := 207) (ls' := #[.val (.int p0), .val (.int p1), .val (.int p2), .val (.int p3), .val (.int p4), .val (.int p5), .val (.int (1 : Int32)), .val (.int ((XT.ushr p0 (1 : Int32)) &&& (3 : Int32))), .val (.int ((XT.ushr p0 (3 : Int32)) &&& (3 : Int32))), .val (.ref c), .val (.ref dd), .val (.ref o), .val (.int (1 : Int32))]) at_205 rfl rfl ?_
    refine Go.iload (pc' := 209) at_207 rfl rfl ?_
    refine Go.iload (pc' := 211) at_209 rfl rfl ?_
    refine Go.icmp_eq (pcY := 216) (pcN := 214) at_211 (by decide) (by decide) rfl (fun hc211 => ?_) (fun hc211 => absurd hc211 (Classical.not_not.mpr rfl))
    refine Go.aload (pc' := 218) at_216 rfl rfl rfl ?_
    refine Go.callV (pc' := 221) (W1 := 0) (cells' := 4) (slots' := 11) (argsL := []) (rest := []) (y' := (⟨"com/example/contender_ranking/contenderranking/index/PostingsList", "hasChampions", "()Z"⟩ : MethodName)) (a := o) (i := 1) at_218 (hw _ (List.mem_of_getElem? (i := 20) rfl)) (hw _ (List.mem_of_getElem? (i := 21) rfl)) (hw _ (List.mem_of_getElem? (i := 23) rfl)) (hw _ (List.mem_of_getElem? (i := 22) rfl)) (hw _ (List.mem_of_getElem? (i := 3) rfl)) (hw _ (List.mem_of_getElem? (i := 24) rfl)) (by decide) rfl (rm3c l Z n0 w0 hw o dd hh c vs) (by decide) (by decide) rfl (lenOf pd__28_29Z rfl) rfl (Nat.le_of_eq rfl) (by decide) (by decide) rfl rfl rfl (fun v W' hF => ?_)
    obtain ⟨rfl, rfl⟩ := hF
    refine Go.val ?_
    refine Go.iload (pc' := 223) at_221 rfl rfl ?_
    refine Go.icmp_eq (pcY := 228) (pcN := 226) at_223 (by decide) (by decide) rfl (fun hc223 => ?_) (fun hc223 => absurd hc223 (Classical.not_not.mpr rfl))
    refine Go.iload (pc' := 230) at_228 rfl rfl ?_
    refine Go.if_ne (pcY := 235) (pcN := 233) at_230 (by decide) (by decide) rfl (fun hc230 => ?_) (fun hc230 => absurd hc230 (by decide))
    refine Go.aload (pc' := 237) at_235 rfl rfl rfl ?_
    refine Go.callV (pc' := 240) (W1 := 0) (cells' := 4) (slots' := 11) (argsL := []) (rest := []) (y' := (⟨"com/example/contender_ranking/contenderranking/index/PostingsList", "championCount", "()I"⟩ : MethodName)) (a := o) (i := 1) at_237 (hw _ (List.mem_of_getElem? (i := 25) rfl)) (hw _ (List.mem_of_getElem? (i := 26) rfl)) (hw _ (List.mem_of_getElem? (i := 28) rfl)) (hw _ (List.mem_of_getElem? (i := 27) rfl)) (hw _ (List.mem_of_getElem? (i := 3) rfl)) (hw _ (List.mem_of_getElem? (i := 29) rfl)) (by decide) rfl (rm4c l Z n0 w0 hw o dd hh c vs) (by decide) (by decide) rfl (lenOf pd__28_29I rfl) rfl (Nat.le_of_eq rfl) (by decide) (by decide) rfl rfl rfl (fun v W' hF => ?_)
    obtain ⟨rfl, rfl⟩ := hF
    refine Go.val ?_
    refine Go.iload (pc' := 242) at_240 rfl rfl ?_
    refine Go.icmp_eq (pcY := 247) (pcN := 245) at_242 (by decide) (by decide) rfl (fun hc242 => ?_) (fun hc242 => absurd hc242 (Classical.not_not.mpr hk0))
    have k300 : Go l Z n0 room_1 code 13 x (some .boolean) D [(c, .inr (.inl vs)), (o, .inl ("com/example/contender_ranking/contenderranking/index/PostingsList", [("documents", "[I", (.ref dd)), ("counts", "[I", (.ref dd)), ("champions", "[I", (.ref c)), ("heaviest", "[I", (.ref hh)), ("heaviestColumns", "Ljava/util/Map;", .null)])), (hh, .inr (.inl []))] 4 11 300 #[.val (.int p0), .val (.int p1), .val (.int p2), .val (.int p3), .val (.int p4), .val (.int p5), .val (.int (1 : Int32)), .val (.int ((XT.ushr p0 (1 : Int32)) &&& (3 : Int32))), .val (.int ((XT.ushr p0 (3 : Int32)) &&& (3 : Int32))), .val (.ref c), .val (.ref dd), .val (.ref o), .val (.int (1 : Int32))] [] (fun v _ => v = some (.int 1)) := by
      refine Go.iconst (pc' := 301) (v := (1 : Int32)) at_300 rfl rfl ?_
      exact Go.retZ (z' := (1 : Int32)) at_301 rfl (by decide) (by decide) (by decide) rfl
    have k282 : Go l Z n0 room_1 code 13 x (some .boolean) D [(c, .inr (.inl vs)), (o, .inl ("com/example/contender_ranking/contenderranking/index/PostingsList", [("documents", "[I", (.ref dd)), ("counts", "[I", (.ref dd)), ("champions", "[I", (.ref c)), ("heaviest", "[I", (.ref hh)), ("heaviestColumns", "Ljava/util/Map;", .null)])), (hh, .inr (.inl []))] 4 11 282 #[.val (.int p0), .val (.int p1), .val (.int p2), .val (.int p3), .val (.int p4), .val (.int p5), .val (.int (1 : Int32)), .val (.int ((XT.ushr p0 (1 : Int32)) &&& (3 : Int32))), .val (.int ((XT.ushr p0 (3 : Int32)) &&& (3 : Int32))), .val (.ref c), .val (.ref dd), .val (.ref o), .val (.int (1 : Int32))] [] (fun v _ => v = some (.int 1)) := by
      refine Go.iload (pc' := 284) at_282 rfl rfl ?_
      refine Go.iconst (pc' := 285) (v := (2 : Int32)) at_284 rfl rfl ?_
      refine Go.icmp_le (pcY := 300) (pcN := 288) at_285 (by decide) (by decide) rfl (fun hc285 => ?_) (fun hc285 => ?_)
      ·
        exact k300
      ·
        refine Go.aload (pc' := 290) at_288 rfl rfl rfl ?_
        refine Go.iconst (pc' := 291) (v := (2 : Int32)) at_290 rfl rfl ?_
        refine Go.callV (pc' := 294) (W1 := 0) (cells' := 4) (slots' := 11) (argsL := [(.int (2 : Int32))]) (rest := []) (y' := (⟨"com/example/contender_ranking/contenderranking/index/PostingsList", "championPlace", "(I)I"⟩ : MethodName)) (a := o) (i := 1) at_291 (hw _ (List.mem_of_getElem? (i := 34) rfl)) (hw _ (List.mem_of_getElem? (i := 35) rfl)) (hw _ (List.mem_of_getElem? (i := 37) rfl)) (hw _ (List.mem_of_getElem? (i := 36) rfl)) (hw _ (List.mem_of_getElem? (i := 3) rfl)) (hw _ (List.mem_of_getElem? (i := 38) rfl)) (by decide) rfl (rm6c l Z n0 w0 hw o (2 : Int32) dd hh c vs p3 (by decide) (h2 hc285)) (by decide) (by decide) rfl (lenOf pd__28I_29I rfl) rfl (Nat.le_of_eq rfl) (by decide) (by decide) rfl rfl rfl (fun v W' hF => ?_)
        obtain ⟨rfl, rfl⟩ := hF
        refine Go.val ?_
        refine Go.iloadN (pc' := 295) at_294 rfl rfl ?_
        refine Go.icmp_eq (pcY := 300) (pcN := 298) at_295 (by decide) (by decide) rfl (fun hc295 => ?_) (fun hc295 => absurd hc295 (Classical.not_not.mpr rfl))
        exact k300
    have k264 : Go l Z n0 room_1 code 13 x (some .boolean) D [(c, .inr (.inl vs)), (o, .inl ("com/example/contender_ranking/contenderranking/index/PostingsList", [("documents", "[I", (.ref dd)), ("counts", "[I", (.ref dd)), ("champions", "[I", (.ref c)), ("heaviest", "[I", (.ref hh)), ("heaviestColumns", "Ljava/util/Map;", .null)])), (hh, .inr (.inl []))] 4 11 264 #[.val (.int p0), .val (.int p1), .val (.int p2), .val (.int p3), .val (.int p4), .val (.int p5), .val (.int (1 : Int32)), .val (.int ((XT.ushr p0 (1 : Int32)) &&& (3 : Int32))), .val (.int ((XT.ushr p0 (3 : Int32)) &&& (3 : Int32))), .val (.ref c), .val (.ref dd), .val (.ref o), .val (.int (1 : Int32))] [] (fun v _ => v = some (.int 1)) := by
      refine Go.iload (pc' := 266) at_264 rfl rfl ?_
      refine Go.iconst (pc' := 267) (v := (1 : Int32)) at_266 rfl rfl ?_
      refine Go.icmp_le (pcY := 282) (pcN := 270) at_267 (by decide) (by decide) rfl (fun hc267 => ?_) (fun hc267 => ?_)
      ·
        exact k282
      ·
        refine Go.aload (pc' := 272) at_270 rfl rfl rfl ?_
        refine Go.iconst (pc' := 273) (v := (1 : Int32)) at_272 rfl rfl ?_
        refine Go.callV (pc' := 276) (W1 := 0) (cells' := 4) (slots' := 11) (argsL := [(.int (1 : Int32))]) (rest := []) (y' := (⟨"com/example/contender_ranking/contenderranking/index/PostingsList", "championPlace", "(I)I"⟩ : MethodName)) (a := o) (i := 1) at_273 (hw _ (List.mem_of_getElem? (i := 34) rfl)) (hw _ (List.mem_of_getElem? (i := 35) rfl)) (hw _ (List.mem_of_getElem? (i := 37) rfl)) (hw _ (List.mem_of_getElem? (i := 36) rfl)) (hw _ (List.mem_of_getElem? (i := 3) rfl)) (hw _ (List.mem_of_getElem? (i := 38) rfl)) (by decide) rfl (rm6c l Z n0 w0 hw o (1 : Int32) dd hh c vs p2 (by decide) (h1 hc267)) (by decide) (by decide) rfl (lenOf pd__28I_29I rfl) rfl (Nat.le_of_eq rfl) (by decide) (by decide) rfl rfl rfl (fun v W' hF => ?_)
        obtain ⟨rfl, rfl⟩ := hF
        refine Go.val ?_
        refine Go.iloadN (pc' := 277) at_276 rfl rfl ?_
        refine Go.icmp_eq (pcY := 282) (pcN := 280) at_277 (by decide) (by decide) rfl (fun hc277 => ?_) (fun hc277 => absurd hc277 (Classical.not_not.mpr rfl))
        exact k282
    refine Go.iload (pc' := 249) at_247 rfl rfl ?_
    refine Go.if_le (pcY := 264) (pcN := 252) at_249 (by decide) (by decide) rfl (fun hc249 => ?_) (fun hc249 => ?_)
    ·
      exact k264
    ·
      refine Go.aload (pc' := 254) at_252 rfl rfl rfl ?_
      refine Go.iconst (pc' := 255) (v := (0 : Int32)) at_254 rfl rfl ?_
      refine Go.callV (pc' := 258) (W1 := 0) (cells' := 4) (slots' := 11) (argsL := [(.int (0 : Int32))]) (rest := []) (y' := (⟨"com/example/contender_ranking/contenderranking/index/PostingsList", "championPlace", "(I)I"⟩ : MethodName)) (a := o) (i := 1) at_255 (hw _ (List.mem_of_getElem? (i := 34) rfl)) (hw _ (List.mem_of_getElem? (i := 35) rfl)) (hw _ (List.mem_of_getElem? (i := 37) rfl)) (hw _ (List.mem_of_getElem? (i := 36) rfl)) (hw _ (List.mem_of_getElem? (i := 3) rfl)) (hw _ (List.mem_of_getElem? (i := 38) rfl)) (by decide) rfl (rm6c l Z n0 w0 hw o (0 : Int32) dd hh c vs p1 (by decide) (h0 hc249)) (by decide) (by decide) rfl (lenOf pd__28I_29I rfl) rfl (Nat.le_of_eq rfl) (by decide) (by decide) rfl rfl rfl (fun v W' hF => ?_)
      obtain ⟨rfl, rfl⟩ := hF
      refine Go.val ?_
      refine Go.iloadN (pc' := 259) at_258 rfl rfl ?_
      refine Go.icmp_eq (pcY := 264) (pcN := 262) at_259 (by decide) (by decide) rfl (fun hc259 => ?_) (fun hc259 => absurd hc259 (Classical.not_not.mpr rfl))
      exact k264
  have k105c : ∀ (c : Addr) (vs : List Int32), vs.length.toInt32 = ((XT.ushr p0 (1 : Int32)) &&& (3 : Int32)) → (0 < ((XT.ushr p0 (1 : Int32)) &&& (3 : Int32)) → vs[0]? = some p1) → (1 < ((XT.ushr p0 (1 : Int32)) &&& (3 : Int32)) → vs[1]? = some p2) → (2 < ((XT.ushr p0 (1 : Int32)) &&& (3 : Int32)) → vs[2]? = some p3) → Go l Z n0 room_1 code 13 x (some .boolean) D [(c, .inr (.inl vs))] 1 3 105 #[.val (.int p0), .val (.int p1), .val (.int p2), .val (.int p3), .val (.int p4), .val (.int p5), .val (.int (1 : Int32)), .val (.int ((XT.ushr p0 (1 : Int32)) &&& (3 : Int32))), .val (.int ((XT.ushr p0 (3 : Int32)) &&& (3 : Int32))), .val (.ref c), .unset, .unset, .unset] [] (fun v _ => v = some (.int 1)) := by
    intro c vs hk0 h0 h1 h2
    refine Go.iload (pc' := 107) at_105 rfl rfl ?_
    refine Go.if_ne (pcY := 118) (pcN := 110) at_107 (by decide) (by decide) rfl (fun hc107 => ?_) (fun hc107 => ?_)
    ·
      refine Go.iload (pc' := 120) at_118 rfl rfl ?_
      refine Go.iconst (pc' := 121) (v := (1 : Int32)) at_120 rfl rfl ?_
      refine Go.icmp_ne (pcY := 137) (pcN := 124) at_121 (by decide) (by decide) rfl (fun hc121 => ?_) (fun hc121 => ?_)
      ·
        refine Go.iload (pc' := 139) at_137 rfl rfl ?_
        refine Go.iconst (pc' := 140) (v := (2 : Int32)) at_139 rfl rfl ?_
        refine Go.icmp_ne (pcY := 161) (pcN := 143) at_140 (by decide) (by decide) rfl (fun hc140 => ?_) (fun hc140 => ?_)
        ·
          refine Go.iconst (pc' := 162) (v := (3 : Int32)) at_161 rfl rfl ?_
          refine Go.newI (pc' := 164) (len := 3) (cells' := 2) (slots' := 6) (W' := fun r5 => [(c, .inr (.inl vs)), (r5, .inr (.inl (List.replicate 3 0)))]) at_162 (hw _ (List.mem_of_getElem? (i := 0) rfl)) (by decide) (by decide) (by decide) (by decide) (by decide) rfl rfl (fun _ => rfl) rfl (fun r5 => ?_)
          refine Go.dup (pc' := 165) at_164 rfl rfl ?_
          refine Go.iconst (pc' := 166) (v := (0 : Int32)) at_165 rfl rfl ?_
          refine Go.iload (pc' := 168) at_166 rfl rfl ?_
          refine Go.iastore (pc' := 169) (i := 1) (W' := [(c, .inr (.inl vs)), (r5, .inr (.inl [p4, 0, 0]))]) at_168 rfl (by decide) (Nat.le_of_ble_eq_true rfl) rfl rfl ?_
          refine Go.dup (pc' := 170) at_169 rfl rfl ?_
          refine Go.iconst (pc' := 171) (v := (1 : Int32)) at_170 rfl rfl ?_
          refine Go.iload (pc' := 173) at_171 rfl rfl ?_
          refine Go.iastore (pc' := 174) (i := 1) (W' := [(c, .inr (.inl vs)), (r5, .inr (.inl [p4, p5, 0]))]) at_173 rfl (by decide) (Nat.le_of_ble_eq_true rfl) rfl rfl ?_
          refine Go.dup (pc' := 175) at_174 rfl rfl ?_
          refine Go.iconst (pc' := 176) (v := (2 : Int32)) at_175 rfl rfl ?_
          refine Go.iload (pc' := 178) at_176 rfl rfl ?_
          refine Go.iastore (pc' := 179) (i := 1) (W' := [(c, .inr (.inl vs)), (r5, .inr (.inl [p4, p5, p4]))]) at_178 rfl (by decide) (Nat.le_of_ble_eq_true rfl) rfl rfl ?_
          refine Go.astore (pc' := 181) (ls' := #[.val (.int p0), .val (.int p1), .val (.int p2), .val (.int p3), .val (.int p4), .val (.int p5), .val (.int (1 : Int32)), .val (.int ((XT.ushr p0 (1 : Int32)) &&& (3 : Int32))), .val (.int ((XT.ushr p0 (3 : Int32)) &&& (3 : Int32))), .val (.ref c), .val (.ref r5), .unset, .unset]) at_179 rfl rfl rfl ?_
          refine Go.less (W' := [(c, .inr (.inl vs))]) (List.Sublist.cons_cons _ (List.Sublist.cons _ List.Sublist.slnil)) ?_
          refine Go.more (cells' := 2) (slots' := 6) (by decide) (by decide) ?_
          exact k181c _ _ _ hk0 h0 h1 h2
        ·
          refine Go.iconst (pc' := 144) (v := (2 : Int32)) at_143 rfl rfl ?_
          refine Go.newI (pc' := 146) (len := 2) (cells' := 2) (slots' := 5) (W' := fun r6 => [(c, .inr (.inl vs)), (r6, .inr (.inl (List.replicate 2 0)))]) at_144 (hw _ (List.mem_of_getElem? (i := 0) rfl)) (by decide) (by decide) (by decide) (by decide) (by decide) rfl rfl (fun _ => rfl) rfl (fun r6 => ?_)
          refine Go.dup (pc' := 147) at_146 rfl rfl ?_
          refine Go.iconst (pc' := 148) (v := (0 : Int32)) at_147 rfl rfl ?_
          refine Go.iload (pc' := 150) at_148 rfl rfl ?_
          refine Go.iastore (pc' := 151) (i := 1) (W' := [(c, .inr (.inl vs)), (r6, .inr (.inl [p4, 0]))]) at_150 rfl (by decide) (Nat.le_of_ble_eq_true rfl) rfl rfl ?_
          refine Go.dup (pc' := 152) at_151 rfl rfl ?_
          refine Go.iconst (pc' := 153) (v := (1 : Int32)) at_152 rfl rfl ?_
          refine Go.iload (pc' := 155) at_153 rfl rfl ?_
          refine Go.iastore (pc' := 156) (i := 1) (W' := [(c, .inr (.inl vs)), (r6, .inr (.inl [p4, p5]))]) at_155 rfl (by decide) (Nat.le_of_ble_eq_true rfl) rfl rfl ?_
          refine Go.astore (pc' := 158) (ls' := #[.val (.int p0), .val (.int p1), .val (.int p2), .val (.int p3), .val (.int p4), .val (.int p5), .val (.int (1 : Int32)), .val (.int ((XT.ushr p0 (1 : Int32)) &&& (3 : Int32))), .val (.int ((XT.ushr p0 (3 : Int32)) &&& (3 : Int32))), .val (.ref c), .val (.ref r6), .unset, .unset]) at_156 rfl rfl rfl ?_
          refine Go.goto (pc' := 181) at_158 (by decide) (by decide) ?_
          refine Go.less (W' := [(c, .inr (.inl vs))]) (List.Sublist.cons_cons _ (List.Sublist.cons _ List.Sublist.slnil)) ?_
          refine Go.more (cells' := 2) (slots' := 6) (by decide) (by decide) ?_
          exact k181c _ _ _ hk0 h0 h1 h2
      ·
        refine Go.iconst (pc' := 125) (v := (1 : Int32)) at_124 rfl rfl ?_
        refine Go.newI (pc' := 127) (len := 1) (cells' := 2) (slots' := 4) (W' := fun r7 => [(c, .inr (.inl vs)), (r7, .inr (.inl (List.replicate 1 0)))]) at_125 (hw _ (List.mem_of_getElem? (i := 0) rfl)) (by decide) (by decide) (by decide) (by decide) (by decide) rfl rfl (fun _ => rfl) rfl (fun r7 => ?_)
        refine Go.dup (pc' := 128) at_127 rfl rfl ?_
        refine Go.iconst (pc' := 129) (v := (0 : Int32)) at_128 rfl rfl ?_
        refine Go.iload (pc' := 131) at_129 rfl rfl ?_
        refine Go.iastore (pc' := 132) (i := 1) (W' := [(c, .inr (.inl vs)), (r7, .inr (.inl [p4]))]) at_131 rfl (by decide) (Nat.le_of_ble_eq_true rfl) rfl rfl ?_
        refine Go.astore (pc' := 134) (ls' := #[.val (.int p0), .val (.int p1), .val (.int p2), .val (.int p3), .val (.int p4), .val (.int p5), .val (.int (1 : Int32)), .val (.int ((XT.ushr p0 (1 : Int32)) &&& (3 : Int32))), .val (.int ((XT.ushr p0 (3 : Int32)) &&& (3 : Int32))), .val (.ref c), .val (.ref r7), .unset, .unset]) at_132 rfl rfl rfl ?_
        refine Go.goto (pc' := 181) at_134 (by decide) (by decide) ?_
        refine Go.less (W' := [(c, .inr (.inl vs))]) (List.Sublist.cons_cons _ (List.Sublist.cons _ List.Sublist.slnil)) ?_
        refine Go.more (cells' := 2) (slots' := 6) (by decide) (by decide) ?_
        exact k181c _ _ _ hk0 h0 h1 h2
    ·
      refine Go.iconst (pc' := 111) (v := (0 : Int32)) at_110 rfl rfl ?_
      refine Go.newI (pc' := 113) (len := 0) (cells' := 2) (slots' := 3) (W' := fun r8 => [(c, .inr (.inl vs)), (r8, .inr (.inl (List.replicate 0 0)))]) at_111 (hw _ (List.mem_of_getElem? (i := 0) rfl)) (by decide) (by decide) (by decide) (by decide) (by decide) rfl rfl (fun _ => rfl) rfl (fun r8 => ?_)
      refine Go.astore (pc' := 115) (ls' := #[.val (.int p0), .val (.int p1), .val (.int p2), .val (.int p3), .val (.int p4), .val (.int p5), .val (.int (1 : Int32)), .val (.int ((XT.ushr p0 (1 : Int32)) &&& (3 : Int32))), .val (.int ((XT.ushr p0 (3 : Int32)) &&& (3 : Int32))), .val (.ref c), .val (.ref r8), .unset, .unset]) at_113 rfl rfl rfl ?_
      refine Go.goto (pc' := 181) at_115 (by decide) (by decide) ?_
      refine Go.less (W' := [(c, .inr (.inl vs))]) (List.Sublist.cons_cons _ (List.Sublist.cons _ List.Sublist.slnil)) ?_
      refine Go.more (cells' := 2) (slots' := 6) (by decide) (by decide) ?_
      exact k181c _ _ _ hk0 h0 h1 h2
  refine Go.iloadN (pc' := 1) at_0 rfl rfl ?_
  refine Go.iconst (pc' := 2) (v := (1 : Int32)) at_1 rfl rfl ?_
  refine Go.iand (pc' := 3) at_2 rfl ?_
  refine Go.if_eq (pcY := 10) (pcN := 6) at_3 (by decide) (by decide) rfl (fun hc3 => ?_) (fun hc3 => ?_)
  ·
    refine Go.iconst (pc' := 11) (v := (0 : Int32)) at_10 rfl rfl ?_
    refine Go.istore (pc' := 13) (ls' := #[.val (.int p0), .val (.int p1), .val (.int p2), .val (.int p3), .val (.int p4), .val (.int p5), .val (.int (0 : Int32)), .unset, .unset, .unset, .unset, .unset, .unset]) at_11 rfl rfl ?_
    refine Go.iloadN (pc' := 14) at_13 rfl rfl ?_
    refine Go.iconst (pc' := 15) (v := (1 : Int32)) at_14 rfl rfl ?_
    refine Go.iushr (pc' := 16) at_15 rfl ?_
    refine Go.iconst (pc' := 17) (v := (3 : Int32)) at_16 rfl rfl ?_
    refine Go.iand (pc' := 18) at_17 rfl ?_
    refine Go.istore (pc' := 20) (ls' := #[.val (.int p0), .val (.int p1), .val (.int p2), .val (.int p3), .val (.int p4), .val (.int p5), .val (.int (0 : Int32)), .val (.int ((XT.ushr p0 (1 : Int32)) &&& (3 : Int32))), .unset, .unset, .unset, .unset, .unset]) at_18 rfl rfl ?_
    refine Go.iloadN (pc' := 21) at_20 rfl rfl ?_
    refine Go.iconst (pc' := 22) (v := (3 : Int32)) at_21 rfl rfl ?_
    refine Go.iushr (pc' := 23) at_22 rfl ?_
    refine Go.iconst (pc' := 24) (v := (3 : Int32)) at_23 rfl rfl ?_
    refine Go.iand (pc' := 25) at_24 rfl ?_
    refine Go.istore (pc' := 27) (ls' := #[.val (.int p0), .val (.int p1), .val (.int p2), .val (.int p3), .val (.int p4), .val (.int p5), .val (.int (0 : Int32)), .val (.int ((XT.ushr p0 (1 : Int32)) &&& (3 : Int32))), .val (.int ((XT.ushr p0 (3 : Int32)) &&& (3 : Int32))), .unset, .unset, .unset, .unset]) at_25 rfl rfl ?_
    refine Go.aconstNull (pc' := 28) at_27 rfl ?_
    refine Go.astore (pc' := 30) (ls' := #[.val (.int p0), .val (.int p1), .val (.int p2), .val (.int p3), .val (.int p4), .val (.int p5), .val (.int (0 : Int32)), .val (.int ((XT.ushr p0 (1 : Int32)) &&& (3 : Int32))), .val (.int ((XT.ushr p0 (3 : Int32)) &&& (3 : Int32))), .val .null, .unset, .unset, .unset]) at_28 rfl rfl rfl ?_
    refine Go.iload (pc' := 32) at_30 rfl rfl ?_
    refine Go.if_eq (pcY := 105) (pcN := 35) at_32 (by decide) (by decide) rfl (fun hc32 => ?_) (fun hc32 => absurd hc32 (Classical.not_not.mpr rfl))
    exact k105n
  ·
    refine Go.iconst (pc' := 7) (v := (1 : Int32)) at_6 rfl rfl ?_
    refine Go.goto (pc' := 11) at_7 (by decide) (by decide) ?_
    refine Go.istore (pc' := 13) (ls' := #[.val (.int p0), .val (.int p1), .val (.int p2), .val (.int p3), .val (.int p4), .val (.int p5), .val (.int (1 : Int32)), .unset, .unset, .unset, .unset, .unset, .unset]) at_11 rfl rfl ?_
    refine Go.iloadN (pc' := 14) at_13 rfl rfl ?_
    refine Go.iconst (pc' := 15) (v := (1 : Int32)) at_14 rfl rfl ?_
    refine Go.iushr (pc' := 16) at_15 rfl ?_
    refine Go.iconst (pc' := 17) (v := (3 : Int32)) at_16 rfl rfl ?_
    refine Go.iand (pc' := 18) at_17 rfl ?_
    refine Go.istore (pc' := 20) (ls' := #[.val (.int p0), .val (.int p1), .val (.int p2), .val (.int p3), .val (.int p4), .val (.int p5), .val (.int (1 : Int32)), .val (.int ((XT.ushr p0 (1 : Int32)) &&& (3 : Int32))), .unset, .unset, .unset, .unset, .unset]) at_18 rfl rfl ?_
    refine Go.iloadN (pc' := 21) at_20 rfl rfl ?_
    refine Go.iconst (pc' := 22) (v := (3 : Int32)) at_21 rfl rfl ?_
    refine Go.iushr (pc' := 23) at_22 rfl ?_
    refine Go.iconst (pc' := 24) (v := (3 : Int32)) at_23 rfl rfl ?_
    refine Go.iand (pc' := 25) at_24 rfl ?_
    refine Go.istore (pc' := 27) (ls' := #[.val (.int p0), .val (.int p1), .val (.int p2), .val (.int p3), .val (.int p4), .val (.int p5), .val (.int (1 : Int32)), .val (.int ((XT.ushr p0 (1 : Int32)) &&& (3 : Int32))), .val (.int ((XT.ushr p0 (3 : Int32)) &&& (3 : Int32))), .unset, .unset, .unset, .unset]) at_25 rfl rfl ?_
    refine Go.aconstNull (pc' := 28) at_27 rfl ?_
    refine Go.astore (pc' := 30) (ls' := #[.val (.int p0), .val (.int p1), .val (.int p2), .val (.int p3), .val (.int p4), .val (.int p5), .val (.int (1 : Int32)), .val (.int ((XT.ushr p0 (1 : Int32)) &&& (3 : Int32))), .val (.int ((XT.ushr p0 (3 : Int32)) &&& (3 : Int32))), .val .null, .unset, .unset, .unset]) at_28 rfl rfl rfl ?_
    refine Go.iload (pc' := 32) at_30 rfl rfl ?_
    refine Go.if_eq (pcY := 105) (pcN := 35) at_32 (by decide) (by decide) rfl (fun hc32 => absurd hc32 (by decide)) (fun hc32 => ?_)
    refine Go.iload (pc' := 37) at_35 rfl rfl ?_
    refine Go.if_ne (pcY := 48) (pcN := 40) at_37 (by decide) (by decide) rfl (fun hc37 => ?_) (fun hc37 => ?_)
    ·
      refine Go.iload (pc' := 50) at_48 rfl rfl ?_
      refine Go.iconst (pc' := 51) (v := (1 : Int32)) at_50 rfl rfl ?_
      refine Go.icmp_ne (pcY := 66) (pcN := 54) at_51 (by decide) (by decide) rfl (fun hc51 => ?_) (fun hc51 => ?_)
      ·
        refine Go.iload (pc' := 68) at_66 rfl rfl ?_
        refine Go.iconst (pc' := 69) (v := (2 : Int32)) at_68 rfl rfl ?_
        refine Go.icmp_ne (pcY := 88) (pcN := 72) at_69 (by decide) (by decide) rfl (fun hc69 => ?_) (fun hc69 => ?_)
        ·
          refine Go.iconst (pc' := 89) (v := (3 : Int32)) at_88 rfl rfl ?_
          refine Go.newI (pc' := 91) (len := 3) (cells' := 1) (slots' := 3) (W' := fun r9 => [(r9, .inr (.inl (List.replicate 3 0)))]) at_89 (hw _ (List.mem_of_getElem? (i := 0) rfl)) (by decide) (by decide) (by decide) (by decide) (by decide) rfl rfl (fun _ => rfl) rfl (fun r9 => ?_)
          refine Go.dup (pc' := 92) at_91 rfl rfl ?_
          refine Go.iconst (pc' := 93) (v := (0 : Int32)) at_92 rfl rfl ?_
          refine Go.iloadN (pc' := 94) at_93 rfl rfl ?_
          refine Go.iastore (pc' := 95) (i := 0) (W' := [(r9, .inr (.inl [p1, 0, 0]))]) at_94 rfl (by decide) (Nat.le_of_ble_eq_true rfl) rfl rfl ?_
          refine Go.dup (pc' := 96) at_95 rfl rfl ?_
          refine Go.iconst (pc' := 97) (v := (1 : Int32)) at_96 rfl rfl ?_
          refine Go.iloadN (pc' := 98) at_97 rfl rfl ?_
          refine Go.iastore (pc' := 99) (i := 0) (W' := [(r9, .inr (.inl [p1, p2, 0]))]) at_98 rfl (by decide) (Nat.le_of_ble_eq_true rfl) rfl rfl ?_
          refine Go.dup (pc' := 100) at_99 rfl rfl ?_
          refine Go.iconst (pc' := 101) (v := (2 : Int32)) at_100 rfl rfl ?_
          refine Go.iloadN (pc' := 102) at_101 rfl rfl ?_
          refine Go.iastore (pc' := 103) (i := 0) (W' := [(r9, .inr (.inl [p1, p2, p3]))]) at_102 rfl (by decide) (Nat.le_of_ble_eq_true rfl) rfl rfl ?_
          refine Go.astore (pc' := 105) (ls' := #[.val (.int p0), .val (.int p1), .val (.int p2), .val (.int p3), .val (.int p4), .val (.int p5), .val (.int (1 : Int32)), .val (.int ((XT.ushr p0 (1 : Int32)) &&& (3 : Int32))), .val (.int ((XT.ushr p0 (3 : Int32)) &&& (3 : Int32))), .val (.ref r9), .unset, .unset, .unset]) at_103 rfl rfl rfl ?_
          refine Go.more (cells' := 1) (slots' := 3) (by decide) (by decide) ?_
          have hq : ((XT.ushr p0 (1 : Int32)) &&& (3 : Int32)) = 3 := own_three hk hc37 hc51 hc69
          exact k105c _ _ (by rw [hq]; rfl) (fun _ => rfl) (fun _ => rfl) (fun _ => rfl)
        ·
          refine Go.iconst (pc' := 73) (v := (2 : Int32)) at_72 rfl rfl ?_
          refine Go.newI (pc' := 75) (len := 2) (cells' := 1) (slots' := 2) (W' := fun r10 => [(r10, .inr (.inl (List.replicate 2 0)))]) at_73 (hw _ (List.mem_of_getElem? (i := 0) rfl)) (by decide) (by decide) (by decide) (by decide) (by decide) rfl rfl (fun _ => rfl) rfl (fun r10 => ?_)
          refine Go.dup (pc' := 76) at_75 rfl rfl ?_
          refine Go.iconst (pc' := 77) (v := (0 : Int32)) at_76 rfl rfl ?_
          refine Go.iloadN (pc' := 78) at_77 rfl rfl ?_
          refine Go.iastore (pc' := 79) (i := 0) (W' := [(r10, .inr (.inl [p1, 0]))]) at_78 rfl (by decide) (Nat.le_of_ble_eq_true rfl) rfl rfl ?_
          refine Go.dup (pc' := 80) at_79 rfl rfl ?_
          refine Go.iconst (pc' := 81) (v := (1 : Int32)) at_80 rfl rfl ?_
          refine Go.iloadN (pc' := 82) at_81 rfl rfl ?_
          refine Go.iastore (pc' := 83) (i := 0) (W' := [(r10, .inr (.inl [p1, p2]))]) at_82 rfl (by decide) (Nat.le_of_ble_eq_true rfl) rfl rfl ?_
          refine Go.astore (pc' := 85) (ls' := #[.val (.int p0), .val (.int p1), .val (.int p2), .val (.int p3), .val (.int p4), .val (.int p5), .val (.int (1 : Int32)), .val (.int ((XT.ushr p0 (1 : Int32)) &&& (3 : Int32))), .val (.int ((XT.ushr p0 (3 : Int32)) &&& (3 : Int32))), .val (.ref r10), .unset, .unset, .unset]) at_83 rfl rfl rfl ?_
          refine Go.goto (pc' := 105) at_85 (by decide) (by decide) ?_
          refine Go.more (cells' := 1) (slots' := 3) (by decide) (by decide) ?_
          have hq : ((XT.ushr p0 (1 : Int32)) &&& (3 : Int32)) = 2 := hc69
          exact k105c _ _ (by rw [hq]; rfl) (fun _ => rfl) (fun _ => rfl) (fun q => absurd q (by rw [hq]; decide))
      ·
        refine Go.iconst (pc' := 55) (v := (1 : Int32)) at_54 rfl rfl ?_
        refine Go.newI (pc' := 57) (len := 1) (cells' := 1) (slots' := 1) (W' := fun r11 => [(r11, .inr (.inl (List.replicate 1 0)))]) at_55 (hw _ (List.mem_of_getElem? (i := 0) rfl)) (by decide) (by decide) (by decide) (by decide) (by decide) rfl rfl (fun _ => rfl) rfl (fun r11 => ?_)
        refine Go.dup (pc' := 58) at_57 rfl rfl ?_
        refine Go.iconst (pc' := 59) (v := (0 : Int32)) at_58 rfl rfl ?_
        refine Go.iloadN (pc' := 60) at_59 rfl rfl ?_
        refine Go.iastore (pc' := 61) (i := 0) (W' := [(r11, .inr (.inl [p1]))]) at_60 rfl (by decide) (Nat.le_of_ble_eq_true rfl) rfl rfl ?_
        refine Go.astore (pc' := 63) (ls' := #[.val (.int p0), .val (.int p1), .val (.int p2), .val (.int p3), .val (.int p4), .val (.int p5), .val (.int (1 : Int32)), .val (.int ((XT.ushr p0 (1 : Int32)) &&& (3 : Int32))), .val (.int ((XT.ushr p0 (3 : Int32)) &&& (3 : Int32))), .val (.ref r11), .unset, .unset, .unset]) at_61 rfl rfl rfl ?_
        refine Go.goto (pc' := 105) at_63 (by decide) (by decide) ?_
        refine Go.more (cells' := 1) (slots' := 3) (by decide) (by decide) ?_
        have hq : ((XT.ushr p0 (1 : Int32)) &&& (3 : Int32)) = 1 := hc51
        exact k105c _ _ (by rw [hq]; rfl) (fun _ => rfl) (fun q => absurd q (by rw [hq]; decide)) (fun q => absurd q (by rw [hq]; decide))
    ·
      refine Go.iconst (pc' := 41) (v := (0 : Int32)) at_40 rfl rfl ?_
      refine Go.newI (pc' := 43) (len := 0) (cells' := 1) (slots' := 0) (W' := fun r12 => [(r12, .inr (.inl (List.replicate 0 0)))]) at_41 (hw _ (List.mem_of_getElem? (i := 0) rfl)) (by decide) (by decide) (by decide) (by decide) (by decide) rfl rfl (fun _ => rfl) rfl (fun r12 => ?_)
      refine Go.astore (pc' := 45) (ls' := #[.val (.int p0), .val (.int p1), .val (.int p2), .val (.int p3), .val (.int p4), .val (.int p5), .val (.int (1 : Int32)), .val (.int ((XT.ushr p0 (1 : Int32)) &&& (3 : Int32))), .val (.int ((XT.ushr p0 (3 : Int32)) &&& (3 : Int32))), .val (.ref r12), .unset, .unset, .unset]) at_43 rfl rfl rfl ?_
      refine Go.goto (pc' := 105) at_45 (by decide) (by decide) ?_
      refine Go.more (cells' := 1) (slots' := 3) (by decide) (by decide) ?_
      have hq : ((XT.ushr p0 (1 : Int32)) &&& (3 : Int32)) = 0 := hc37
      exact k105c _ _ (by rw [hq]; rfl) (fun q => absurd q (by rw [hq]; decide)) (fun q => absurd q (by rw [hq]; decide)) (fun q => absurd q (by rw [hq]; decide))
set_option maxRecDepth 65536 in
set_option maxHeartbeats 40000000 in
theorem comes_1 {Post : Tables → Env → Array Value → State → Outcome → State → Prop} (hpost : ∀ tb e args s v u, (limb_1_1.after args s (.returned v) u = true ∧ limb_1_2.after args s (.returned v) u = true ∧ True) → FrameEnd s (.returned v) u (Jvm.fieldLocs frame_1_writes args s ++ Jvm.arrayLocs frame_1_arrays args s ++ Jvm.staticLocs frame_1_statics s) 16 128 → Post tb e args s (.returned v) u) :
    ArmFor flags0 classFile x code maxLocals ret World_1 tables_1 room_1 Calls_1 rest_1 Pre_1 Post := by
  intro l hfl _ _ p e ha hc hk s m args below hf hA hF happ hP
  obtain ⟨hcalls, hrest, hpre⟩ := hP
  obtain ⟨-, -, -, hnamed, -, -, -, hat⟩ := (Spec.applies_iff hf).mp happ
  obtain ⟨hg, hn⟩ := and_e (Cond.before_iff.mp (show (Jvm.Cond.and given_1 narrow_1).before args s = true from hpre))
  obtain ⟨g0, k0⟩ := and_e hg
  obtain ⟨w0, w1, w2, w3, w4, w5, rfl⟩ : ∃ w0 w1 w2 w3 w4 w5 : Value, args = #[w0, w1, w2, w3, w4, w5] := by
    have hs : args.size = 6 := by simpa [Cond.value, given_1] using g0
    obtain ⟨L⟩ := args
    match L, hs with
    | [w0, w1, w2, w3, w4, w5], _ => exact ⟨w0, w1, w2, w3, w4, w5, rfl⟩
  have hw := fun d (hd : d ∈ tables_1) => atoms_spec (ws := Jvm.Cond.code x code maxLocals ret :: tables_1) hat d (List.mem_cons_of_mem _ hd)
  obtain ⟨g1, k1⟩ := and_e k0
  obtain ⟨i0, e0⟩ := is_v g1
  obtain rfl : w0 = (.int i0) := Option.some.inj e0
  obtain ⟨g2, k2⟩ := and_e k1
  obtain ⟨i1, e1⟩ := is_v g2
  obtain rfl : w1 = (.int i1) := Option.some.inj e1
  obtain ⟨g3, k3⟩ := and_e k2
  obtain ⟨i2, e2⟩ := is_v g3
  obtain rfl : w2 = (.int i2) := Option.some.inj e2
  obtain ⟨g4, k4⟩ := and_e k3
  obtain ⟨i3, e3⟩ := is_v g4
  obtain rfl : w3 = (.int i3) := Option.some.inj e3
  obtain ⟨g5, k5⟩ := and_e k4
  obtain ⟨i4, e4⟩ := is_v g5
  obtain rfl : w4 = (.int i4) := Option.some.inj e4
  obtain ⟨i5, e5⟩ := is_v k5
  obtain rfl : w5 = (.int i5) := Option.some.inj e5
  have hWd : World s s.heap.size s.heap [] := ⟨Nat.le_refl _, List.nodup_nil, fun _ q => nomatch q⟩
  obtain ⟨n, o, h1, h2, h3, v, L, rfl, ⟨N, W', -, rfl⟩, hq⟩ := rm0 l s s.heap.size _ hw i0 i1 i2 i3 i4 i5 s.heap hWd p e ha hc hk s m _ below hf ((Spec.applies_iff_loose hf).mp happ).1 ⟨rfl, State.Warmed39.refl s, rfl⟩ trivial
  refine ⟨n, _, h1, h2, h3, hpost _ _ _ _ _ _ ⟨Cond.after_iff.mpr rfl, Cond.after_iff.mpr (eq_i res_at (Term.int_eval (1)) rfl), trivial⟩ ⟨hq.1, hq.2.1, (hq.2.2.sift fun y hy => Or.inr (N y hy)).mono (by decide) (by decide)⟩⟩
theorem main_1_1 : Claimed_1_1 := comes_1 fun _ _ _ _ _ _ h hF => ⟨h.1, hF⟩
theorem main_1_2 : Claimed_1_2 := comes_1 fun _ _ _ _ _ _ h hF => ⟨h.2.1, hF⟩
end Jvm.Pilot.@@N@@
namespace Jvm.Pilot.@@N@@
open Jvm Jvm.ClassFile Sem Op Lib Jvm.Free Jvm.Stand Jvm.Pilot.@@N@@.Jvm.D
/-! MADE BY PROGRAM (witnessworld.py) out of the Statement's table words and the real class files: 9 classes; the members and pool entries that the words name. The judged class is class 1, her method 1. -/
namespace start1
open Jvm.ClassFile
def u (s : String) : CpInfo := .utf8 (stringToUtf16 s)
/-- a pool by its gaps: so many unusable entries, then the entry; so many at the end -/
def gap : Nat → List CpInfo → List CpInfo
  | 0, r => r
  | n + 1, r => .unusable :: gap n r
def poolList (es : List (Nat × CpInfo)) (last : Nat) : List CpInfo := es.foldr (fun e r => gap e.1 (e.2 :: r)) (gap last [])
def pool (es : List (Nat × CpInfo)) (last : Nat) : Array CpInfo := ⟨poolList es last⟩
def fileOf (pool : Array CpInfo) (this : Nat) (attrs : Array Attribute := #[]) (ms : Array MethodInfo := #[]) (fl : Nat := 33) (sup : Nat := 0) (ifs : Array Nat := #[]) (fds : Array FieldInfo := #[]) : ClassFile where
  minorVersion := 0
  majorVersion := 65
  constantPool := pool
  accessFlags := fl
  thisClass := this
  superClass := sup
  interfaces := ifs
  fields := fds
  methods := ms
  attributes := attrs
def plain (name : String) (sup : Option ClassId) : Class where
  name := name
  kind := .ordinary
  loader := none
  accessFlags := 33
  super := sup
  interfaces := #[]
  cf := none
  fields := #[]
  methods := #[]
  instanceTypes := #[]
  staticTypes := #[]
  resolved := #[]
  callSites := []
  init := .initialized
  statics := none
  mirror := none

def pool0 : Array CpInfo := pool [(5, u "<init>"), (0, u "()V"), (1, .class_ 10), (1, u "java/lang/Object")] 113

def k0c0 : Code := { maxStack := 0, maxLocals := 1, code := object_method_1_code, exceptionTable := #[], attributes := #[] }
def k0m0 : Method := { name := "<init>", desc := "()V", sig := { parameters := [], returnType := none }, accessFlags := 1, code := some k0c0 }
/-- java/lang/Object -/
def k0 : Class := { plain "java/lang/Object" none with
  accessFlags := 33
  interfaces := #[]
  cf := some (fileOf pool0 8 #[] #[{ accessFlags := 1, nameIndex := 5, descriptorIndex := 6, attributes := #[] }] 33 0 #[] #[])
  fields := #[]
  methods := #[k0m0]
  instanceTypes := #[]
  staticTypes := #[]
  resolved := Array.replicate 124 none
  statics := none }

def pool1 : Array CpInfo := pool [(2, .class_ 4), (1, u "java/lang/Object"), (0, u "<init>"), (0, u "()V"), (0, .class_ 8), (0, u "com/example/contender_ranking/contenderranking/index/PostingsList"), (0, .methodref 7 10), (0, .nameAndType 5 11), (0, u "([I[I[I[ILjava/util/Map;)V"), (0, .methodref 7 13), (0, .nameAndType 14 15), (0, u "hasChampions"), (0, u "()Z"), (0, .methodref 7 17), (0, .nameAndType 18 19), (0, u "championCount"), (0, u "()I"), (0, .methodref 7 21), (0, .nameAndType 22 23), (0, u "championPlace"), (0, u "(I)I"), (0, .class_ 25), (0, u "com/example/contender_ranking/contenderranking/index/PostingsListHasChampionsPinLaw"), (2, u "law"), (0, u "(IIIIII)Z")] 5

def k1m0 : Method := { name := "<init>", desc := "()V", sig := { parameters := [], returnType := none }, accessFlags := 1, code := none }
def k1c1 : Code := { maxStack := 7, maxLocals := 13, code := code, exceptionTable := #[], attributes := #[] }
def k1m1 : Method := { name := "law", desc := "(IIIIII)Z", sig := { parameters := [.int, .int, .int, .int, .int, .int], returnType := some .boolean }, accessFlags := 9, code := some k1c1 }
/-- com/example/contender_ranking/contenderranking/index/PostingsListHasChampionsPinLaw -/
def k1 : Class := { plain "com/example/contender_ranking/contenderranking/index/PostingsListHasChampionsPinLaw" (some 0) with
  accessFlags := 49
  interfaces := #[]
  cf := some (fileOf pool1 24 #[] #[{ accessFlags := 1, nameIndex := 5, descriptorIndex := 6, attributes := #[] }, { accessFlags := 9, nameIndex := 28, descriptorIndex := 29, attributes := #[] }] 49 2 #[] #[])
  fields := #[]
  methods := #[k1m0, k1m1]
  instanceTypes := #[]
  staticTypes := #[]
  resolved := Array.replicate 35 none
  statics := none }

def pool2 : Array CpInfo := pool [(1, .methodref 2 3), (0, .class_ 4), (0, .nameAndType 5 6), (0, u "java/lang/Object"), (0, u "<init>"), (0, u "()V"), (0, .fieldref 8 9), (0, .class_ 10), (0, .nameAndType 11 12), (0, u "com/example/contender_ranking/contenderranking/index/PostingsList"), (0, u "documents"), (0, u "[I"), (0, .fieldref 8 14), (0, .nameAndType 15 12), (0, u "counts"), (0, .fieldref 8 17), (0, .nameAndType 18 12), (0, u "champions"), (0, .fieldref 8 20), (0, .nameAndType 21 12), (0, u "heaviest"), (0, .fieldref 8 23), (0, .nameAndType 24 25), (0, u "heaviestColumns"), (0, u "Ljava/util/Map;"), (30, u "()I"), (0, .methodref 8 58), (0, .nameAndType 18 59), (0, u "()[I"), (4, u "([I[I[I[ILjava/util/Map;)V"), (5, u "(I)I"), (5, u "hasChampions"), (0, u "()Z"), (0, u "championCount"), (0, u "championPlace")] 2

def k2c0 : Code := { maxStack := 2, maxLocals := 6, code := prog_33_method_1_code, exceptionTable := #[], attributes := #[] }
def k2m0 : Method := { name := "<init>", desc := "([I[I[I[ILjava/util/Map;)V", sig := { parameters := [(.array .int), (.array .int), (.array .int), (.array .int), (.object "java/util/Map")], returnType := none }, accessFlags := 0, code := some k2c0 }
def k2c1 : Code := { maxStack := 1, maxLocals := 1, code := prog_33_method_7_code, exceptionTable := #[], attributes := #[] }
def k2m1 : Method := { name := "hasChampions", desc := "()Z", sig := { parameters := [], returnType := some .boolean }, accessFlags := 1, code := some k2c1 }
def k2c2 : Code := { maxStack := 1, maxLocals := 1, code := prog_33_method_8_code, exceptionTable := #[], attributes := #[] }
def k2m2 : Method := { name := "championCount", desc := "()I", sig := { parameters := [], returnType := some .int }, accessFlags := 1, code := some k2c2 }
def k2c3 : Code := { maxStack := 2, maxLocals := 2, code := prog_33_method_9_code, exceptionTable := #[], attributes := #[] }
def k2m3 : Method := { name := "championPlace", desc := "(I)I", sig := { parameters := [.int], returnType := some .int }, accessFlags := 1, code := some k2c3 }
def k2c4 : Code := { maxStack := 3, maxLocals := 1, code := prog_33_method_10_code, exceptionTable := #[], attributes := #[] }
def k2m4 : Method := { name := "champions", desc := "()[I", sig := { parameters := [], returnType := some (.array .int) }, accessFlags := 2, code := some k2c4 }
/-- com/example/contender_ranking/contenderranking/index/PostingsList -/
def k2 : Class := { plain "com/example/contender_ranking/contenderranking/index/PostingsList" (some 0) with
  accessFlags := 49
  interfaces := #[]
  cf := some (fileOf pool2 8 #[] #[{ accessFlags := 0, nameIndex := 5, descriptorIndex := 64, attributes := #[] }, { accessFlags := 1, nameIndex := 76, descriptorIndex := 77, attributes := #[] }, { accessFlags := 1, nameIndex := 78, descriptorIndex := 56, attributes := #[] }, { accessFlags := 1, nameIndex := 79, descriptorIndex := 70, attributes := #[] }, { accessFlags := 2, nameIndex := 18, descriptorIndex := 59, attributes := #[] }] 49 2 #[] #[{ accessFlags := 18, nameIndex := 11, descriptorIndex := 12, attributes := #[] }, { accessFlags := 18, nameIndex := 15, descriptorIndex := 12, attributes := #[] }, { accessFlags := 18, nameIndex := 18, descriptorIndex := 12, attributes := #[] }, { accessFlags := 18, nameIndex := 21, descriptorIndex := 12, attributes := #[] }, { accessFlags := 18, nameIndex := 24, descriptorIndex := 25, attributes := #[] }])
  fields := #[{ name := "documents", type := (.array .int), accessFlags := 18, slot := 0, constantValue := 0 }, { name := "counts", type := (.array .int), accessFlags := 18, slot := 1, constantValue := 0 }, { name := "champions", type := (.array .int), accessFlags := 18, slot := 2, constantValue := 0 }, { name := "heaviest", type := (.array .int), accessFlags := 18, slot := 3, constantValue := 0 }, { name := "heaviestColumns", type := (.object "java/util/Map"), accessFlags := 18, slot := 4, constantValue := 0 }]
  methods := #[k2m0, k2m1, k2m2, k2m3, k2m4]
  instanceTypes := #[(.array .int), (.array .int), (.array .int), (.array .int), (.object "java/util/Map")]
  staticTypes := #[]
  resolved := Array.replicate 82 none
  statics := none }

def pool3 : Array CpInfo := pool [(1, u "java/lang/Cloneable"), (0, .class_ 1), (0, u "java/lang/Object"), (0, .class_ 3)] 3

/-- java/lang/Cloneable -/
def k3 : Class := { plain "java/lang/Cloneable" (some 0) with
  accessFlags := 1537
  interfaces := #[]
  cf := some (fileOf pool3 2 #[] #[] 1537 4 #[] #[])
  fields := #[]
  methods := #[]
  instanceTypes := #[]
  staticTypes := #[]
  resolved := Array.replicate 8 none
  statics := none }

def pool4 : Array CpInfo := pool [(1, u "java/io/Serializable"), (0, .class_ 1), (0, u "java/lang/Object"), (0, .class_ 3)] 3

/-- java/io/Serializable -/
def k4 : Class := { plain "java/io/Serializable" (some 0) with
  accessFlags := 1537
  interfaces := #[]
  cf := some (fileOf pool4 2 #[] #[] 1537 4 #[] #[])
  fields := #[]
  methods := #[]
  instanceTypes := #[]
  staticTypes := #[]
  resolved := Array.replicate 8 none
  statics := none }

/-- the primitive byte -/
def k5 : Class := { plain "byte" none with kind := .primitive 'B', accessFlags := 0x411 }
/-- [B -/
def k6 : Class := { plain "[B" (some 0) with kind := .array 5 .byte, interfaces := #[3, 4], accessFlags := 1041 }

/-- the primitive int -/
def k7 : Class := { plain "int" none with kind := .primitive 'I', accessFlags := 0x411 }
/-- [I -/
def k8 : Class := { plain "[I" (some 0) with kind := .array 7 .int, interfaces := #[3, 4], accessFlags := 1041 }

def heap : Heap := #[]
def classes : Array Class := #[k0, k1, k2, k3, k4, k5, k6, k7, k8]
def interned : List (Array UInt16 × Addr) := []
def slotsUsed : Nat := 0
def theMethod : MethodId := ⟨1, 1⟩
def args0 : Array Value := #[.int 5, .int 7, .int 1, .int 2, .int 3, .int 4]
def aboutOver (below : List Frame) : State where
  vm := { classes := classes, interned := interned.toArray }
  heap := heap
  slotsUsed := slotsUsed
  threads := #[{ frames := .invoking theMethod args0 :: below }]
def below0 : List Frame := [.native { method := ⟨0, 0⟩, args := #[] }]
def about1 : State := aboutOver below0
def p0 : Program := .bare "" "" ""
def e0 : Env := launch0.env 0 0 0
theorem w_frames : about1.frames = Frame.invoking theMethod args0 :: below0 := rfl
set_option maxRecDepth 65536 in
theorem w_args : argsFit about1.vm theMethod args0 = true := by decide +kernel
set_option maxRecDepth 65536 in
theorem w_heap : heapFits about1 = true := by decide +kernel
set_option maxRecDepth 65536 in
theorem w_runnable : about1.curStatus? = some .runnable := by decide +kernel
set_option maxRecDepth 65536 in
theorem w_alone : about1.alone = true := by decide +kernel
set_option maxRecDepth 65536 in
theorem w_named : about1.methodNamed? x = some theMethod := by decide +kernel
set_option maxRecDepth 65536 in
theorem w_hears : about1.hears theMethod below0 = true := by decide +kernel
set_option maxRecDepth 65536 in
theorem w_ripe : about1.ripe theMethod args0 below0 = true := by decide +kernel
theorem w_running : about1.status = .running := rfl
set_option maxRecDepth 65536 in
theorem w_room : about1.hasRoom e0.platform room_1 = true :=
  launch0.hasRoom_least _ room_1 (by decide +kernel) (by decide +kernel) (by decide +kernel) (by decide +kernel) (by decide +kernel) (by decide +kernel)
theorem allAtoms_all (ts : List Jvm.Cond) (a : Array Jvm.Value) (st : Jvm.State) : (allAtoms ts).before a st = ts.all (fun c => c.before a st) := by
  induction ts with
  | nil => rfl
  | cons c t ih =>
    show (Jvm.Cond.and c (allAtoms t)).before a st = _
    rw [Jvm.Cond.before_and, ih, List.all_cons]
def words1 : List Jvm.Cond := Jvm.Cond.code x code maxLocals ret :: tables_1
/-- a 'code' word, met by the world's own term for the bytes: nothing is compared byte by byte -/
theorem code_word {y : MethodName} {bytes : ByteArray} {mx : Nat} {rt : Option FieldType} {a : Array Value} {s : State} {m : MethodId} {meth : Method} {c : Code} (h1 : s.methodNamed? y = some m) (h2 : s.vm.method? m = some meth) (h3 : meth.code = some c) (h4 : c.code = bytes)
    (h5 : (c.maxLocals == mx && c.exceptionTable.isEmpty && decide (c.maxStack ≤ mostOperands) && decide (meth.sig.returnType = rt) && !meth.locks && decide (parseMethodDescriptor y.desc = some meth.sig)) = true) : (Jvm.Cond.code y bytes mx rt).before a s = true := by
  simp only [Bool.and_eq_true, beq_iff_eq, Bool.not_eq_true', decide_eq_true_eq] at h5
  obtain ⟨⟨⟨⟨⟨g1, g2⟩, g3⟩, g4⟩, g5⟩, g6⟩ := h5
  simp [Cond.before, Cond.holds, Cond.value, h1, h2, h3, h4, g1, g2, g3, g4, g5, g6]
def isCode : Jvm.Cond → Bool
  | .code _ _ _ _ => true
  | _ => false
theorem all_split {L : List Jvm.Cond} {P : Jvm.Cond → Bool} (h1 : L.all (fun c => isCode c || P c) = true) (h2 : ∀ c ∈ L.filter isCode, P c = true) : L.all P = true := by
  refine List.all_eq_true.mpr fun c hc => ?_
  have h := List.all_eq_true.mp h1 c hc
  rcases Bool.eq_false_or_eq_true (isCode c) with hi | hi
  · exact h2 c (List.mem_filter.mpr ⟨hc, hi⟩)
  · simpa [hi] using h
set_option maxRecDepth 65536 in
theorem w_c0 : (Jvm.Cond.code x code maxLocals ret).before args0 about1 = true := code_word (m := ⟨1, 1⟩) (meth := k1m1) (c := k1c1) (by decide +kernel) rfl rfl rfl (by decide +kernel)
set_option maxRecDepth 65536 in
theorem w_c1 : (Jvm.Cond.code ({ cls := "com/example/contender_ranking/contenderranking/index/PostingsList", name := "<init>", desc := "([I[I[I[ILjava/util/Map;)V" } : Jvm.MethodName) prog_33_method_1_code (6 : Nat) (Option.none : Option Jvm.ClassFile.FieldType)).before args0 about1 = true := code_word (m := ⟨2, 0⟩) (meth := k2m0) (c := k2c0) (by decide +kernel) rfl rfl rfl (by decide +kernel)
set_option maxRecDepth 65536 in
theorem w_c2 : (Jvm.Cond.code ({ cls := "java/lang/Object", name := "<init>", desc := "()V" } : Jvm.MethodName) object_method_1_code (1 : Nat) (Option.none : Option Jvm.ClassFile.FieldType)).before args0 about1 = true := code_word (m := ⟨0, 0⟩) (meth := k0m0) (c := k0c0) (by decide +kernel) rfl rfl rfl (by decide +kernel)
set_option maxRecDepth 65536 in
theorem w_c3 : (Jvm.Cond.code ({ cls := "com/example/contender_ranking/contenderranking/index/PostingsList", name := "hasChampions", desc := "()Z" } : Jvm.MethodName) prog_33_method_7_code (1 : Nat) (Option.some Jvm.ClassFile.FieldType.boolean)).before args0 about1 = true := code_word (m := ⟨2, 1⟩) (meth := k2m1) (c := k2c1) (by decide +kernel) rfl rfl rfl (by decide +kernel)
set_option maxRecDepth 65536 in
theorem w_c4 : (Jvm.Cond.code ({ cls := "com/example/contender_ranking/contenderranking/index/PostingsList", name := "championCount", desc := "()I" } : Jvm.MethodName) prog_33_method_8_code (1 : Nat) (Option.some Jvm.ClassFile.FieldType.int)).before args0 about1 = true := code_word (m := ⟨2, 2⟩) (meth := k2m2) (c := k2c2) (by decide +kernel) rfl rfl rfl (by decide +kernel)
set_option maxRecDepth 65536 in
theorem w_c5 : (Jvm.Cond.code ({ cls := "com/example/contender_ranking/contenderranking/index/PostingsList", name := "champions", desc := "()[I" } : Jvm.MethodName) prog_33_method_10_code (1 : Nat) (Option.some (Jvm.ClassFile.FieldType.array Jvm.ClassFile.FieldType.int))).before args0 about1 = true := code_word (m := ⟨2, 4⟩) (meth := k2m4) (c := k2c4) (by decide +kernel) rfl rfl rfl (by decide +kernel)
set_option maxRecDepth 65536 in
theorem w_c6 : (Jvm.Cond.code ({ cls := "com/example/contender_ranking/contenderranking/index/PostingsList", name := "championPlace", desc := "(I)I" } : Jvm.MethodName) prog_33_method_9_code (2 : Nat) (Option.some Jvm.ClassFile.FieldType.int)).before args0 about1 = true := code_word (m := ⟨2, 3⟩) (meth := k2m3) (c := k2c3) (by decide +kernel) rfl rfl rfl (by decide +kernel)
def codes1 : List Jvm.Cond := [Jvm.Cond.code x code maxLocals ret, Jvm.Cond.code ({ cls := "com/example/contender_ranking/contenderranking/index/PostingsList", name := "<init>", desc := "([I[I[I[ILjava/util/Map;)V" } : Jvm.MethodName) prog_33_method_1_code (6 : Nat) (Option.none : Option Jvm.ClassFile.FieldType), Jvm.Cond.code ({ cls := "java/lang/Object", name := "<init>", desc := "()V" } : Jvm.MethodName) object_method_1_code (1 : Nat) (Option.none : Option Jvm.ClassFile.FieldType), Jvm.Cond.code ({ cls := "com/example/contender_ranking/contenderranking/index/PostingsList", name := "hasChampions", desc := "()Z" } : Jvm.MethodName) prog_33_method_7_code (1 : Nat) (Option.some Jvm.ClassFile.FieldType.boolean), Jvm.Cond.code ({ cls := "com/example/contender_ranking/contenderranking/index/PostingsList", name := "championCount", desc := "()I" } : Jvm.MethodName) prog_33_method_8_code (1 : Nat) (Option.some Jvm.ClassFile.FieldType.int), Jvm.Cond.code ({ cls := "com/example/contender_ranking/contenderranking/index/PostingsList", name := "champions", desc := "()[I" } : Jvm.MethodName) prog_33_method_10_code (1 : Nat) (Option.some (Jvm.ClassFile.FieldType.array Jvm.ClassFile.FieldType.int)), Jvm.Cond.code ({ cls := "com/example/contender_ranking/contenderranking/index/PostingsList", name := "championPlace", desc := "(I)I" } : Jvm.MethodName) prog_33_method_9_code (2 : Nat) (Option.some Jvm.ClassFile.FieldType.int)]
set_option maxRecDepth 65536 in
theorem codes_eq : words1.filter isCode = codes1 := rfl
theorem w_codes : ∀ c ∈ words1.filter isCode, c.before args0 about1 = true := by
  rw [codes_eq]
  intro c hc
  simp only [codes1, List.mem_cons, List.not_mem_nil, or_false] at hc
  rcases hc with rfl | rfl | rfl | rfl | rfl | rfl | rfl
  · exact w_c0
  · exact w_c1
  · exact w_c2
  · exact w_c3
  · exact w_c4
  · exact w_c5
  · exact w_c6
set_option maxRecDepth 65536 in
theorem w_t1 : (words1.take 24).all (fun c => isCode c || c.before args0 about1) = true := by decide +kernel
set_option maxRecDepth 65536 in
theorem w_t2 : (words1.drop 24).all (fun c => isCode c || c.before args0 about1) = true := by decide +kernel
theorem w_tables : (allAtoms (Jvm.Cond.code x code maxLocals ret :: tables_1)).before args0 about1 = true := by
  rw [allAtoms_all]
  show words1.all (fun c => c.before args0 about1) = true
  refine all_split ?_ w_codes
  rw [← List.take_append_drop 24 words1, List.all_append, w_t1, w_t2]
  rfl
set_option maxRecDepth 65536 in
theorem w_case : (Jvm.Cond.and given_1 narrow_1).before args0 about1 = true := by decide +kernel
theorem w_applies : (headSpec (Jvm.Cond.code x code maxLocals ret :: tables_1) room_1).applies x e0.platform about1 = true :=
  (Spec.applies_iff w_frames).mpr ⟨w_running, w_runnable, w_alone, w_named, w_hears, w_ripe, w_room, w_tables⟩
theorem atStart : AtStart classFile x code maxLocals ret World_1 tables_1 room_1 Calls_1 rest_1 Pre_1 launch0 p0 e0 about1 theMethod args0 below0 :=
  ⟨lists_1, trivial, launch0.admits_env _ _ _, launch0.least_env, fairChoices_fair.cas, fairChoices_fair.clock, w_frames, w_args, w_heap, w_applies, trivial, trivial, w_case⟩
end start1
theorem witness_1 : WitnessClaimed_1 := ⟨start1.p0, start1.e0, start1.about1, start1.theMethod, start1.args0, start1.below0, start1.atStart⟩
end Jvm.Pilot.@@N@@
